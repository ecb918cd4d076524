import Derived.Test.Qxb6001213aModsHead
namespace Go.Proofs.Qxb6001213aMods
open Go.RowKit
set_option linter.unusedVariables false

/-- The slice of strings that came in: where it has an element its cells lie in a row, one a string. -/
def StrRow (w : World) (a : Option Addr) (len : Nat) (S : Nat → ByteArray) : Prop :=
  0 < len → ∃ b off, a = some ⟨b, off, none⟩ ∧ ∀ i, i < len → w.cell? ⟨b, off + i, none⟩ = some (.string (S i)) ∧ (S i).size ≤ maxLen

/-- Some number came back; some answer came back. -/
def IsInt (e : Ending) : Prop := ∃ t : Int, e = .returned (.int .i64 t)
def IsBool (e : Ending) : Prop := ∃ t : Bool, e = .returned (.bool t)

set_option maxHeartbeats 1000000 in
/-- sourcesBytes: some number; nothing is written. -/
theorem bytes_any (a : Option Addr) (len cap : Nat) (S : Nat → ByteArray) (w : World) (hl : len ≤ maxLen) (hc : StrRow w a len S) :
    Calls Trym.prog 5 #[.slice a len cap] w fun e w' => IsInt e ∧ w' = w := by
  unfold maxLen at hl
  have H : Hid (StrRow w a len S) := hc
  clear hc
  go_enter Trym.func5, Trym.ntmps5
  go_wp2
  go_loop [3, 4] (fun t i => ∃ (k : Nat) (n : Int), k ≤ len ∧ i = .int .i64 k ∧ t = .int .i64 n) (fun _ i => len - (intOf i).toNat)
  case atStart => exact ⟨0, _, Nat.zero_le _, rfl, rfl⟩
  case round =>
    obtain ⟨k, n, hk, rfl, rfl⟩ := hrel
    by_cases hlt : k < len
    · obtain ⟨b, off, ha, hcs⟩ := H.out (by omega)
      have c1 := (hcs k hlt).1
      clear hcs
      subst ha
      go_wp2
      · go_ret
        exact ⟨⟨_, rfl⟩, rfl⟩
      · go_round
        case rel => exact ⟨k + 1, _, by omega, by go_num, rfl⟩
        case measure => simp [intOf]; omega
    · go_wp2
      go_ret
      exact ⟨⟨n, rfl⟩, rfl⟩

set_option maxHeartbeats 1000000 in
/-- zzBytes_..: some answer; nothing is written. -/
theorem zzbytes_any (a : Option Addr) (len cap : Nat) (S : Nat → ByteArray) (a1 a2 a3 a4 : Option Addr) (l1 c1 l2 c2 l3 c3 l4 c4 : Nat) (w : World) (hl : len ≤ maxLen) (hc : StrRow w a len S) :
    Calls Trym.prog 4 #[.slice a len cap, .slice a1 l1 c1, .slice a2 l2 c2, .slice a3 l3 c3, .slice a4 l4 c4] w fun e w' => IsBool e ∧ w' = w := by
  unfold maxLen at hl
  have H : Hid (StrRow w a len S) := hc
  clear hc
  go_enter Trym.func4, Trym.ntmps4
  go_wp2
  · go_ret
    exact ⟨⟨_, rfl⟩, rfl⟩
  go_loop [11, 12] (fun t i => ∃ (k : Nat) (n : Int), k ≤ len ∧ i = .int .i64 k ∧ t = .int .i64 n) (fun _ i => len - (intOf i).toNat)
  case atStart => exact ⟨0, _, Nat.zero_le _, rfl, rfl⟩
  case round =>
    obtain ⟨k, n, hk, rfl, rfl⟩ := hrel
    by_cases hlt : k < len
    · obtain ⟨b, off, ha, hcs⟩ := H.out (by omega)
      have c1 := (hcs k hlt).1
      clear hcs
      subst ha
      go_wp2
      · go_ret
        exact ⟨⟨_, rfl⟩, rfl⟩
      · go_ret
        exact ⟨⟨_, rfl⟩, rfl⟩
      · go_round
        case rel => exact ⟨k + 1, _, by omega, by go_num, rfl⟩
        case measure => simp [intOf]; omega
    · go_wp2
      all_goals (go_ret; exact ⟨⟨_, rfl⟩, rfl⟩)
end Go.Proofs.Qxb6001213aMods
