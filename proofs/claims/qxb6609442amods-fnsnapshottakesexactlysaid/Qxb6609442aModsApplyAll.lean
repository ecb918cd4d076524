import Derived.Test.Qxb6609442aModsApply
namespace Go.Proofs.Qxb6609442aMods
open Go.RowKit
set_option linter.unusedVariables false

/-- Patch q lies in the seven cells from ⟨g, o⟩ on. -/
def PatAt (w : World) (g o : Nat) (q : Pat) : Prop :=
  w.cell? ⟨g, o, none⟩ = some (.string q.st) ∧ w.cell? ⟨g, o + 1, none⟩ = some (.int .u64 0) ∧ w.cell? ⟨g, o + 2, none⟩ = some (.int .i64 0) ∧ w.cell? ⟨g, o + 3, none⟩ = some (.pointer none) ∧
    w.cell? ⟨g, o + 4, none⟩ = some (.bool q.closed) ∧ w.cell? ⟨g, o + 5, none⟩ = some (.string q.reason) ∧ w.cell? ⟨g, o + 6, none⟩ = some (.string q.note)

theorem lt_of_cell {w : World} {b o : Nat} {v : Value} (hc : w.cell? ⟨b, o, none⟩ = some v) : b < w.heap.size := by
  by_cases hb : b < w.heap.size
  · exact hb
  · simp [World.cell?, Array.getElem?_eq_none (show w.heap.size ≤ b by omega)] at hc

theorem grown_cell {w w' : World} {row : Option Nat} (h : w.grownBy w' row) {b o : Nat} {v : Value} (hc : w.cell? ⟨b, o, none⟩ = some v) (hne : some b ≠ row) : w'.cell? ⟨b, o, none⟩ = some v := h.cell hc hne

theorem PatAt.later {w w' : World} {row : Option Nat} {g o : Nat} {q : Pat} (h : PatAt w g o q) (hg : w.grownBy w' row) (hne : some g ≠ row) : PatAt w' g o q := by
  obtain ⟨h0, h1, h2, h3, h4, h5, h6⟩ := h
  exact ⟨grown_cell hg h0 hne, grown_cell hg h1 hne, grown_cell hg h2 hne, grown_cell hg h3 hne, grown_cell hg h4 hne, grown_cell hg h5 hne, grown_cell hg h6 hne⟩

/-- The status behind m patches. -/
def lastSt (s : ByteArray) (Q : Nat → Pat) : Nat → ByteArray
  | 0 => s
  | m + 1 => (Q m).st

/-- THE LOOP's RELATION: k patches are made to the item in block b. -/
structure Made (w : World) (b : Nat) (s : ByteArray) (Q : Nat → Pat) (k : Nat) (w' : World) : Prop where
  row : ∃ f n, w'.rowIs b 80 19 f ∧ f 4 = .string (lastSt s Q k) ∧ f 15 = .string n ∧ n.size ≤ k * 1048577
  grown : w.grownBy w' (some b)

theorem Made.step {w : World} {b : Nat} {s : ByteArray} {Q : Nat → Pat} {k : Nat} {wr w1 w2 : World} (h : Made w b s Q k wr) (hg : wr.grownBy w1 (some b)) {n : ByteArray} (hn : n.size ≤ k * 1048577) (ha : Applied w1 b (Q k).st (n.size + 1048577) w2) : Made w b s Q (k + 1) w2 := by
  obtain ⟨⟨f, s', r, r4, r15, hs'⟩, hg2⟩ := ha
  exact ⟨⟨f, s', r, r4, r15, by omega⟩, (h.grown.trans hg).trans hg2⟩

set_option maxHeartbeats 1000000 in
/-- applyAll: the item in block b bears the last patch's status. -/
theorem applyAll_any (b g m cap : Nat) (s : ByteArray) (Q : Nat → Pat) (w : World) (hm : m ≤ 65536) (hne : g ≠ b) (hQ : ∀ j, j < m → PatAt w g (j * 7) (Q j) ∧ (Q j).note.size ≤ 1048576) (h0 : Made w b s Q 0 w) :
    Calls Trym.prog 17 #[.pointer (some ⟨b, 0, none⟩), .slice (some ⟨g, 0, none⟩) m cap] w fun e w' => e = .returned (.tuple #[]) ∧ Made w b s Q m w' := by
  have H : Hid (∀ j, j < m → PatAt w g (j * 7) (Q j) ∧ (Q j).note.size ≤ 1048576) := hQ
  have HN : Hid (g ≠ b) := hne
  clear hQ hne
  go_enter Trym.func17, Trym.ntmps17
  go_wp2
  go_loopw [8] (fun i wr => ∃ k : Nat, k ≤ m ∧ i = .int .i64 k ∧ Made w b s Q k wr) (fun i _ => m - (intOf i).toNat)
  case atStart => exact ⟨0, Nat.zero_le _, rfl, h0⟩
  case round =>
    obtain ⟨k, hk, rfl, hmade⟩ := hrel
    by_cases hlt : k < m
    · obtain ⟨x0, x1, x2, x3, x4, x5, x6⟩ := (H.out k hlt).1.later hmade.grown (by intro e; exact HN.out (Option.some.inj e))
      obtain ⟨f, n, hrow, h4, h15, hn⟩ := hmade.row
      have HR : Hid (wr.rowIs b 80 19 f) := hrow
      have H15 : Hid (f 15 = .string n) := h15
      clear hrow h4 h15
      go_wp2_with fail
      refine (apply_any _ _ _ _ (H.out k hlt).2 b f n _ (HR.out.alloc _) H15.out (by omega)).mono ?_
      rintro e w2 ⟨rfl, ha⟩
      have hstep := hmade.step (grown_alloc (World.grownBy.refl _ _) _) hn ha
      go_wp2_with fail
      go_roundw
      case rel => exact ⟨k + 1, by omega, by go_num, hstep⟩
      case measure => simp [intOf]; omega
    · have hkm : k = m := by omega
      subst hkm
      go_wp2
      go_end0
      exact ⟨rfl, hmade⟩
end Go.Proofs.Qxb6609442aMods
