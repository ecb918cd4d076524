import Derived.Test.Qxb6609442aModsFits
namespace Go.Proofs.Qxb6609442aMods
open Go.RowKit
set_option linter.unusedVariables false

/-- Is the status a done item's? -/
def doneB (s : ByteArray) : Bool := (s.toList == [99, 108, 111, 115, 101, 100]) || (s.toList == [112, 105, 110, 110, 101, 100])

/-- zzIsDone. -/
theorem isDone_any (s : ByteArray) (w : World) : Calls Trym.prog 10 #[.string s] w fun e w' => e = .returned (.bool (doneB s)) ∧ w' = w := by
  cases h1 : (s.toList == [99, 108, 111, 115, 101, 100])
  · cases h2 : (s.toList == [112, 105, 110, 110, 101, 100])
    · have hd : Hid (doneB s = false) := by show doneB s = false; simp only [doneB, h1, h2]; rfl
      go_enter Trym.func10, Trym.ntmps10
      go_wp2
      go_ret
      exact ⟨by rw [hd.out]; rfl, rfl⟩
    · have hd : Hid (doneB s = true) := by show doneB s = true; simp only [doneB, h1, h2]; rfl
      go_enter Trym.func10, Trym.ntmps10
      go_wp2
      go_ret
      exact ⟨by rw [hd.out]; rfl, rfl⟩
  · have hd : Hid (doneB s = true) := by show doneB s = true; simp only [doneB, h1]; rfl
    go_enter Trym.func10, Trym.ntmps10
    go_wp2
    go_ret
    exact ⟨by rw [hd.out]; rfl, rfl⟩

/-- done: of an item in memory. -/
theorem done_any (b : Nat) (s : ByteArray) (w : World) (hc : w.cell? ⟨b, 4, none⟩ = some (.string s)) : Calls Trym.prog 18 #[.pointer (some ⟨b, 0, none⟩)] w fun e w' => e = .returned (.bool (doneB s)) ∧ w' = w := by
  cases h1 : (s.toList == [99, 108, 111, 115, 101, 100])
  · cases h2 : (s.toList == [112, 105, 110, 110, 101, 100])
    · have hd : Hid (doneB s = false) := by show doneB s = false; simp only [doneB, h1, h2]; rfl
      go_enter Trym.func18, Trym.ntmps18
      go_wp2
      go_ret
      exact ⟨by rw [hd.out]; rfl, rfl⟩
    · have hd : Hid (doneB s = true) := by show doneB s = true; simp only [doneB, h1, h2]; rfl
      go_enter Trym.func18, Trym.ntmps18
      go_wp2
      go_ret
      exact ⟨by rw [hd.out]; rfl, rfl⟩
  · have hd : Hid (doneB s = true) := by show doneB s = true; simp only [doneB, h1]; rfl
    go_enter Trym.func18, Trym.ntmps18
    go_wp2
    go_ret
    exact ⟨by rw [hd.out]; rfl, rfl⟩

/-- internal/stringslite.HasSuffix at a line break: some answer. -/
theorem suffix22_any (s : ByteArray) (w : World) (hs : s.size ≤ maxLen) : Calls Trym.prog 22 #[.string s, .string { data := #[10] }] w fun e w' => IsBool e ∧ w' = w := by
  unfold maxLen at hs
  by_cases h1 : 1 ≤ s.size
  · have h2 : (1 : Int) ≤ (s.size : Int) := by omega
    go_enter Trym.func22, Trym.ntmps22
    go_wp2
    go_ret
    exact ⟨⟨_, rfl⟩, rfl⟩
  · go_enter Trym.func22, Trym.ntmps22
    go_wp2
    go_ret
    exact ⟨⟨_, rfl⟩, rfl⟩

theorem suffix21_any (s : ByteArray) (w : World) (hs : s.size ≤ maxLen) : Calls Trym.prog 21 #[.string s, .string { data := #[10] }] w fun e w' => IsBool e ∧ w' = w := by
  go_enter Trym.func21, Trym.ntmps21
  go_wp2_with fail
  refine (suffix22_any s _ hs).mono ?_
  rintro e w' ⟨⟨t, rfl⟩, rfl⟩
  go_wp2
  go_ret
  exact ⟨⟨_, rfl⟩, rfl⟩

/-- What withLine answers: some string, no longer than both and a line break. -/
def LinePost (n : Nat) (e : Ending) : Prop := ∃ s : ByteArray, e = .returned (.string s) ∧ s.size ≤ n

set_option maxHeartbeats 400000 in
theorem withLine_any (s t : ByteArray) (w : World) (hs : s.size ≤ 1152921504606846976) (ht : t.size ≤ 1048576) : Calls Trym.prog 20 #[.string s, .string t] w fun e w' => LinePost (s.size + t.size + 1) e ∧ w' = w := by
  have hadd := fun w => run_string_add_sum (P := Trym.prog) w s t (by omega)
  have hadd1 := fun w => run_string_add_sum (P := Trym.prog) w s { data := #[10] } (by show s.size + 1 ≤ _; omega)
  have hadd2 := fun w => run_string_add_sum (P := Trym.prog) w (s ++ { data := #[10] }) t (by rw [ByteArray.size_append]; show s.size + 1 + t.size ≤ _; omega)
  cases h1 : s.toList.isEmpty
  · go_enter Trym.func20, Trym.ntmps20
    go_wp2_with fail
    refine (suffix21_any s _ (by unfold maxLen; omega)).mono ?_
    rintro e w' ⟨⟨b, rfl⟩, rfl⟩
    cases b
    · go_wp2_with fail
      go_ret
      exact ⟨⟨_, rfl, by rw [ByteArray.size_append, ByteArray.size_append]; show s.size + 1 + t.size ≤ _; omega⟩, rfl⟩
    · go_wp2_with fail
      go_ret
      exact ⟨⟨_, rfl, by rw [ByteArray.size_append]; omega⟩, rfl⟩
  · go_enter Trym.func20, Trym.ntmps20
    go_wp2_with fail
    go_ret
    exact ⟨⟨_, rfl, by rw [ByteArray.size_append]; omega⟩, rfl⟩
end Go.Proofs.Qxb6609442aMods
