import Derived.Test.Qxb6609442aModsBytes
namespace Go.Proofs.Qxb6609442aMods
open Go.RowKit
set_option linter.unusedVariables false

/-- Some number came back; some answer came back. -/
def IsInt (e : Ending) : Prop := ∃ t : Int, e = .returned (.int .i64 t)
def IsBool (e : Ending) : Prop := ∃ t : Bool, e = .returned (.bool t)

/-- zzAddLen: some number. -/
theorem addLen_any (n k : Int) (w : World) : Calls Trym.prog 11 #[.int .i64 n, .int .i64 k] w fun e w' => IsInt e ∧ w' = w := by
  go_enter Trym.func11, Trym.ntmps11
  go_wp2
  all_goals
    go_ret
    exact ⟨⟨_, rfl⟩, rfl⟩

set_option maxHeartbeats 4000000 in
set_option maxRecDepth 100000 in
/-- zzSizeFits: some answer. -/
theorem fits_any (a : Option Addr) (nr cr : Nat) (I T : Nat → ByteArray) (p : Option Addr) (np cp : Nat) (Q : Nat → Pat) (w : World) (hnr : nr ≤ maxLen) (hnp : np ≤ maxLen) (hR : RecRow w a nr I T) (hP : PatRow w p np Q) :
    Calls Trym.prog 5 #[.slice a nr cr, .slice p np cp, .int .i64 0] w fun e w' => IsBool e ∧ w' = w := by
  unfold maxLen at hnr hnp
  have H : Hid (RecRow w a nr I T) := hR
  have HP : Hid (PatRow w p np Q) := hP
  clear hR hP
  go_enter Trym.func5, Trym.ntmps5
  go_wp2
  go_loop [2, 7] (fun t i => ∃ (k : Nat) (n : Int), k ≤ nr ∧ i = .int .i64 k ∧ t = .int .i64 n) (fun _ i => nr - (intOf i).toNat)
  case atStart => exact ⟨0, _, Nat.zero_le _, rfl, rfl⟩
  case round =>
    obtain ⟨k, n, hk, rfl, rfl⟩ := hrel
    by_cases hlt : k < nr
    · obtain ⟨b, off, ha, hcs⟩ := H.out (by omega)
      obtain ⟨x1, x2, -, -⟩ := hcs k hlt
      clear hcs
      subst ha
      go_wp2_with fail
      refine (addLen_any _ _ _).mono ?_
      rintro e w' ⟨⟨t1, rfl⟩, rfl⟩
      go_wp2_with fail
      refine (addLen_any _ _ _).mono ?_
      rintro e w' ⟨⟨t2, rfl⟩, rfl⟩
      go_wp2_with fail
      refine (addLen_any _ _ _).mono ?_
      rintro e w' ⟨⟨t3, rfl⟩, rfl⟩
      go_wp2_with fail
      go_round
      case rel => exact ⟨k + 1, _, by omega, by go_num, rfl⟩
      case measure => simp [intOf]; omega
    · go_wp2
      go_loop [2, 8] (fun t i => ∃ (k : Nat) (n : Int), k ≤ np ∧ i = .int .i64 k ∧ t = .int .i64 n) (fun _ i => np - (intOf i).toNat)
      case atStart => exact ⟨0, _, Nat.zero_le _, rfl, rfl⟩
      case round =>
        obtain ⟨k2, n2, hk2, rfl, rfl⟩ := hrel
        by_cases hlt2 : k2 < np
        · obtain ⟨b, off, hp, hcs⟩ := HP.out (by omega)
          obtain ⟨y1, y2, y3, y4, y5, -⟩ := hcs k2 hlt2
          clear hcs
          subst hp
          go_wp2_with fail
          refine (addLen_any _ _ _).mono ?_
          rintro e w' ⟨⟨t1, rfl⟩, rfl⟩
          go_wp2_with fail
          refine (addLen_any _ _ _).mono ?_
          rintro e w' ⟨⟨t2, rfl⟩, rfl⟩
          go_wp2_with fail
          refine (addLen_any _ _ _).mono ?_
          rintro e w' ⟨⟨t3, rfl⟩, rfl⟩
          go_wp2_with fail
          refine (addLen_any _ _ _).mono ?_
          rintro e w' ⟨⟨t4, rfl⟩, rfl⟩
          go_wp2_with fail
          refine (addLen_any _ _ _).mono ?_
          rintro e w' ⟨⟨t5, rfl⟩, rfl⟩
          go_wp2_with fail
          go_round
          case rel => exact ⟨k2 + 1, _, by omega, by go_num, rfl⟩
          case measure => simp [intOf]; omega
        · go_wp2
          go_ret
          exact ⟨⟨_, rfl⟩, rfl⟩
end Go.Proofs.Qxb6609442aMods
