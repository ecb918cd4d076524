import Derived.Test.Qxb6609442aModsTakes
namespace Go.Proofs.Qxb6609442aMods
open Go.RowKit
set_option linter.unusedVariables false

/-! ### plain facts on the lists of patches -/
theorem pats_mem {Q : Nat → Pat} {s : ByteArray} {q : Pat} : ∀ {k : Nat}, q ∈ pats Q k s → ∃ j, j < k ∧ q = Q j
  | 0, h => by simp [pats] at h
  | k + 1, h => by
    unfold pats at h
    split at h
    · rcases List.mem_append.1 h with h | h
      · obtain ⟨j, hj, e⟩ := pats_mem h
        exact ⟨j, by omega, e⟩
      · exact ⟨k, by omega, by simpa using h⟩
    · obtain ⟨j, hj, e⟩ := pats_mem h
      exact ⟨j, by omega, e⟩

theorem pats_ne {Q : Nat → Pat} {s : ByteArray} : ∀ {k : Nat}, pats Q k s ≠ [] ↔ ∃ j, j < k ∧ (Q j).id = s
  | 0 => by simp [pats]
  | k + 1 => by
    by_cases e : s = (Q k).id
    · subst e
      rw [pats_same]
      exact ⟨fun _ => ⟨k, by omega, rfl⟩, fun _ => by simp⟩
    · rw [pats_other Q e, pats_ne]
      constructor
      · rintro ⟨j, hj, h⟩
        exact ⟨j, by omega, h⟩
      · rintro ⟨j, hj, h⟩
        by_cases ek : j = k
        · subst ek
          exact absurd h.symm e
        · exact ⟨j, by omega, h⟩

theorem flat_get (l : List Pat) : ∀ (j c : Nat), c < 7 → (l.flatMap pc)[j * 7 + c]? = (l[j]?).bind fun q => (pc q)[c]? := by
  induction l with
  | nil => intro j c _; simp
  | cons q r ih =>
    intro j c hc
    rw [List.flatMap_cons]
    cases j with
    | zero =>
      rw [Nat.zero_mul, Nat.zero_add, List.getElem?_append_left (by simpa [pc] using hc)]
      rfl
    | succ j =>
      have e : (j + 1) * 7 + c = 7 + (j * 7 + c) := by omega
      rw [e, List.getElem?_append_right (by simp [pc]), show (pc q).length = 7 from rfl, Nat.add_sub_cancel_left, ih j c hc]
      rfl

theorem patAt_of_row {w : World} {base g m cap : Nat} {l : List Pat} (h : w.ownsRow base 84 7 (.slice (some ⟨g, 0, none⟩) m cap) m (l.flatMap pc)) {j : Nat} {q : Pat} (hj : l[j]? = some q) : PatAt w g (j * 7) q := by
  have get : ∀ c u, c < 7 → (pc q)[c]? = some u → w.cell? ⟨g, j * 7 + c, none⟩ = some u := by
    intro c u hc hu
    refine ownsRow_cell h ?_
    rw [flat_get l j c hc, hj]
    exact hu
  exact ⟨by simpa using get 0 _ (by omega) rfl, get 1 _ (by omega) rfl, get 2 _ (by omega) rfl, get 3 _ (by omega) rfl, get 4 _ (by omega) rfl, get 5 _ (by omega) rfl, get 6 _ (by omega) rfl⟩

/-! ### the stage on which takes stands -/
theorem stage_of {w1 w2 w3 : World} {I T : Nat → ByteArray} {Q : Nat → Pat} {nr np : Nat} {f : ByteArray → Option Value} (hS : Snap w1 I T nr w2) (hP : Pats w2 Q np f w3) (hn : ∀ j, j < np → (Q j).note.size ≤ 1048576) :
    ∃ ao cap, Stage w3 (w1.heap.size + 1) w1.heap.size w2.heap.size ao cap I T Q nr np f := by
  obtain ⟨v, xs, fs, hrow, h3, h4, hown, hit⟩ := hS.recs
  obtain ⟨ao, cap, hv⟩ := ownsRow_shape hown
  have old : ∀ {b o : Nat} {v : Value}, w2.cell? ⟨b, o, none⟩ = some v → w3.cell? ⟨b, o, none⟩ = some v := by
    intro b o v hc
    rw [hP.below.cell (p := ⟨b, o, none⟩) (lt_of_cell hc)]
    exact hc
  refine ⟨ao, cap, old (by rw [hrow.cell (by omega), h3, hv]), old (by rw [hrow.cell (by omega), h4]), hS.map.of_block (hP.below.block _ hS.map.lt), ?_, hP.map, ?_⟩
  · intro i hi
    obtain ⟨g, cap', hv', _, _⟩ := ownsRow_some hown (by omega)
    obtain ⟨bi, x1, x2, x3, x4⟩ := hit i hi
    have e := hv.symm.trans hv'
    injection e with e1 e2 e3
    refine ⟨g, bi, e1, old ?_, (hP.below.block bi (Array.getElem?_eq_some_iff.1 x3).1).trans x3⟩
    rw [hv'] at hown
    exact ownsRow_cell hown x1
  · intro s v hv
    have hr := hP.rows s v hv
    have hne : pats Q np s ≠ [] := fun e => by rw [(hP.none s).2 e] at hv; cases hv
    have hpos : 0 < (pats Q np s).length := List.length_pos_iff.2 hne
    obtain ⟨g, c, hv', _, _⟩ := ownsRow_some hr hpos
    rw [hv'] at hr
    refine ⟨g, c, hv', hpos, fun j q hj => ⟨patAt_of_row hr hj, ?_⟩⟩
    obtain ⟨i, hi, rfl⟩ := pats_mem (List.mem_of_getElem? hj)
    exact hn i hi

/-- What takes asks, said of the patches in their order. -/
theorem all_good {w : World} {I T : Nat → ByteArray} {Q : Nat → Pat} {nr np : Nat} {f : ByteArray → Option Value} {w' : World} (hP : Pats w Q np f w') : (∀ s, (f s).isSome = true → good I T Q nr np s = true) ↔ ∀ j, j < np → good I T Q nr np (Q j).id = true := by
  have key : ∀ s, (f s).isSome = true ↔ ∃ j, j < np ∧ (Q j).id = s := by
    intro s
    rw [← pats_ne, ne_eq, ← hP.none s]
    cases f s <;> simp
  constructor
  · intro h j hj
    exact h _ ((key _).2 ⟨j, hj, rfl⟩)
  · intro h s hs
    obtain ⟨j, hj, rfl⟩ := (key s).1 hs
    exact h j hj

/-! ### the map of last statuses -/
def lastF (Q : Nat → Pat) (k : Nat) : ByteArray → Option Value := fun s => (pats Q k s).getLast?.map fun q => .string q.st

theorem lastF_zero (Q : Nat → Pat) : lastF Q 0 = fun _ => none := rfl
theorem lastF_step (Q : Nat → Pat) (k : Nat) : upd (lastF Q k) (Q k).id (.string (Q k).st) = lastF Q (k + 1) := by
  funext s
  by_cases e : s = (Q k).id
  · subst e
    rw [upd_same]
    unfold lastF
    rw [pats_same]
    simp
  · rw [upd_other _ _ e]
    unfold lastF
    rw [pats_other Q e]
theorem lastF_at {Q : Nat → Pat} {np j : Nat} (hj : j < np) : lastF Q np (Q j).id = some (.string (lastOf (pats Q np (Q j).id))) := by
  have hne : pats Q np (Q j).id ≠ [] := pats_ne.2 ⟨j, hj, rfl⟩
  unfold lastF lastOf
  cases hl : (pats Q np (Q j).id).getLast? with
  | none => exact absurd (List.getLast?_eq_none_iff.1 hl) hne
  | some q => rfl

/-! ### rows carried into later worlds -/
theorem RecRow.later {w wr : World} {a : Option Addr} {len : Nat} {I T : Nat → ByteArray} (h : RecRow w a len I T) (hb : Below w.heap.size w wr) : RecRow wr a len I T := by
  intro h0
  obtain ⟨b, off, ha, hcs⟩ := h h0
  refine ⟨b, off, ha, fun i hi => ?_⟩
  obtain ⟨x1, x2, r⟩ := hcs i hi
  exact ⟨by rw [hb.cell (p := ⟨b, off + i * 2, none⟩) (lt_of_cell x1)]; exact x1, by rw [hb.cell (p := ⟨b, off + i * 2 + 1, none⟩) (lt_of_cell x2)]; exact x2, r⟩

theorem PatRow.later {w wr : World} {p : Option Addr} {len : Nat} {Q : Nat → Pat} (h : PatRow w p len Q) (hb : Below w.heap.size w wr) : PatRow wr p len Q := by
  have old : ∀ {b o : Nat} {v : Value}, w.cell? ⟨b, o, none⟩ = some v → wr.cell? ⟨b, o, none⟩ = some v := by
    intro b o v hc
    rw [hb.cell (p := ⟨b, o, none⟩) (lt_of_cell hc)]
    exact hc
  intro h0
  obtain ⟨b, off, ha, hcs⟩ := h h0
  refine ⟨b, off, ha, fun i hi => ?_⟩
  obtain ⟨x0, x1, x2, x3, x4, r⟩ := hcs i hi
  exact ⟨old x0, old x1, old x2, old x3, old x4, r⟩
end Go.Proofs.Qxb6609442aMods
