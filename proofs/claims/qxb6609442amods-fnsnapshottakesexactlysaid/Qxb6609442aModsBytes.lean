import Derived.Test.Qxb6609442aModsProg
import Derived.WalkKit
import Derived.Outline
import Derived.WalkSpells
import Derived.WalkLawsBesides
import Derived.Deep.QuietTactic
import Derived.BigQuiet
import Derived.Deep.OwnRows
import Derived.KernelRfl
namespace Go.Proofs.Qxb6609442aMods
open Go.RowKit
set_option linter.unusedVariables false

/-- A patch asked for, as plain data. -/
structure Pat where
  id : ByteArray
  st : ByteArray
  closed : Bool
  reason : ByteArray
  note : ByteArray

/-- The records that came in: where there is one, two cells a record. -/
def RecRow (w : World) (a : Option Addr) (len : Nat) (I T : Nat → ByteArray) : Prop :=
  0 < len → ∃ b off, a = some ⟨b, off, none⟩ ∧ ∀ i, i < len → w.cell? ⟨b, off + i * 2, none⟩ = some (.string (I i)) ∧ w.cell? ⟨b, off + i * 2 + 1, none⟩ = some (.string (T i)) ∧ (I i).size ≤ maxLen ∧ (T i).size ≤ maxLen

/-- The patches that came in: where there is one, five cells a patch. -/
def PatRow (w : World) (a : Option Addr) (len : Nat) (Q : Nat → Pat) : Prop :=
  0 < len → ∃ b off, a = some ⟨b, off, none⟩ ∧ ∀ i, i < len → w.cell? ⟨b, off + i * 5, none⟩ = some (.string (Q i).id) ∧ w.cell? ⟨b, off + i * 5 + 1, none⟩ = some (.string (Q i).st) ∧ w.cell? ⟨b, off + i * 5 + 2, none⟩ = some (.bool (Q i).closed) ∧
    w.cell? ⟨b, off + i * 5 + 3, none⟩ = some (.string (Q i).reason) ∧ w.cell? ⟨b, off + i * 5 + 4, none⟩ = some (.string (Q i).note) ∧ (Q i).id.size ≤ maxLen ∧ (Q i).st.size ≤ maxLen ∧ (Q i).reason.size ≤ maxLen ∧ (Q i).note.size ≤ maxLen

/-- What zzBytes answers: some bool; where it is true no note is long. -/
def BytesPost (np : Nat) (Q : Nat → Pat) (e : Ending) : Prop := ∃ t : Bool, e = .returned (.bool t) ∧ (t = true → ∀ j, j < np → (Q j).note.size ≤ 1048576)

theorem BytesPost.no (np : Nat) (Q : Nat → Pat) : BytesPost np Q (.returned (.bool false)) := ⟨false, rfl, fun h => by cases h⟩

theorem notes_step {Q : Nat → Pat} {k : Nat} (h : ∀ j, j < k → (Q j).note.size ≤ 1048576) (hk : ((Q k).note.size : Int) ≤ 1048576) : ∀ j, j < k + 1 → (Q j).note.size ≤ 1048576 := by
  intro j hj
  by_cases e : j = k
  · subst e; omega
  · exact h j (by omega)

set_option maxHeartbeats 4000000 in
set_option maxRecDepth 100000 in
theorem zzbytes_any (a : Option Addr) (nr cr : Nat) (I T : Nat → ByteArray) (p : Option Addr) (np cp : Nat) (Q : Nat → Pat) (w : World) (hnr : nr ≤ maxLen) (hnp : np ≤ maxLen) (hR : RecRow w a nr I T) (hP : PatRow w p np Q) :
    Calls Trym.prog 4 #[.slice a nr cr, .slice p np cp] w fun e w' => BytesPost np Q e ∧ w' = w := by
  unfold maxLen at hnr hnp
  have H : Hid (RecRow w a nr I T) := hR
  have HP : Hid (PatRow w p np Q) := hP
  clear hR hP
  go_enter Trym.func4, Trym.ntmps4
  go_wp2
  · go_ret
    exact ⟨BytesPost.no _ _, rfl⟩
  go_loop [5, 6] (fun t i => ∃ (k : Nat) (n : Int), k ≤ nr ∧ i = .int .i64 k ∧ t = .int .i64 n) (fun _ i => nr - (intOf i).toNat)
  case atStart => exact ⟨0, _, Nat.zero_le _, rfl, rfl⟩
  case round =>
    obtain ⟨k, n, hk, rfl, rfl⟩ := hrel
    by_cases hlt : k < nr
    · obtain ⟨b, off, ha, hcs⟩ := H.out (by omega)
      obtain ⟨x1, x2, -, -⟩ := hcs k hlt
      clear hcs
      subst ha
      go_wp2
      · go_ret
        exact ⟨BytesPost.no _ _, rfl⟩
      · go_ret
        exact ⟨BytesPost.no _ _, rfl⟩
      · go_ret
        exact ⟨BytesPost.no _ _, rfl⟩
      · go_ret
        exact ⟨BytesPost.no _ _, rfl⟩
      · go_round
        case rel => exact ⟨k + 1, _, by omega, by go_num, rfl⟩
        case measure => simp [intOf]; omega
    · go_wp2
      · go_ret
        exact ⟨BytesPost.no _ _, rfl⟩
      · go_ret
        exact ⟨BytesPost.no _ _, rfl⟩
      · go_loop [5, 7] (fun t i => ∃ (k : Nat) (n : Int), k ≤ np ∧ i = .int .i64 k ∧ t = .int .i64 n ∧ Hid (∀ j, j < k → (Q j).note.size ≤ 1048576)) (fun _ i => np - (intOf i).toNat)
        case atStart => exact ⟨0, _, Nat.zero_le _, rfl, rfl, fun j h => by omega⟩
        case round =>
          obtain ⟨k2, n2, hk2, rfl, rfl, hnotes⟩ := hrel
          by_cases hlt2 : k2 < np
          · obtain ⟨b, off, hp, hcs⟩ := HP.out (by omega)
            obtain ⟨y1, y2, y3, y4, y5, -⟩ := hcs k2 hlt2
            clear hcs
            subst hp
            go_wp2
            · go_ret
              exact ⟨BytesPost.no _ _, rfl⟩
            · go_ret
              exact ⟨BytesPost.no _ _, rfl⟩
            · go_ret
              exact ⟨BytesPost.no _ _, rfl⟩
            · go_ret
              exact ⟨BytesPost.no _ _, rfl⟩
            · go_ret
              exact ⟨BytesPost.no _ _, rfl⟩
            · go_ret
              exact ⟨BytesPost.no _ _, rfl⟩
            · go_ret
              exact ⟨BytesPost.no _ _, rfl⟩
            · go_ret
              exact ⟨BytesPost.no _ _, rfl⟩
            · have hno : ((Q k2).note.size : Int) ≤ 1048576 := by assumption
              go_round
              case rel => exact ⟨k2 + 1, _, by omega, by go_num, rfl, notes_step hnotes.out hno⟩
              case measure => simp [intOf]; omega
          · have hkn : k2 = np := by omega
            subst hkn
            go_wp2
            go_ret
            exact ⟨⟨true, rfl, fun _ => hnotes.out⟩, rfl⟩
end Go.Proofs.Qxb6609442aMods
