import Derived.Test.Qxb6609442aModsSnap
namespace Go.Proofs.Qxb6609442aMods
open Go.RowKit
set_option linter.unusedVariables false

theorem Trym.info84 : (Trym.prog.info? 84).map (fun i => (i.zero, i.size, i.bytes)) = some (some (.agg #[.string ⟨#[]⟩, .int .u64 0, .int .i64 0, .pointer none, .bool false, .string ⟨#[]⟩, .string ⟨#[]⟩]), 7, 80) := by kernel_rfl
theorem zero48 (w : World) : (zeroValue 48).run Trym.prog w = .ok (.slice none 0 0) w := by kernel_rfl

/-- A patch's seven cells. -/
def pc (q : Pat) : List Value := [.string q.st, .int .u64 0, .int .i64 0, .pointer none, .bool q.closed, .string q.reason, .string q.note]

/-- The patches of an id among the first k, in order. -/
def pats (Q : Nat → Pat) : Nat → ByteArray → List Pat
  | 0, _ => []
  | k + 1, s => if s = (Q k).id then pats Q k s ++ [Q k] else pats Q k s

theorem pats_len (Q : Nat → Pat) (s : ByteArray) : ∀ k, (pats Q k s).length ≤ k
  | 0 => Nat.le_refl _
  | k + 1 => by
    have := pats_len Q s k
    unfold pats
    split
    · simp; omega
    · omega

theorem pats_same (Q : Nat → Pat) (k : Nat) : pats Q (k + 1) (Q k).id = pats Q k (Q k).id ++ [Q k] := by simp [pats]
theorem pats_other (Q : Nat → Pat) {k : Nat} {s : ByteArray} (h : s ≠ (Q k).id) : pats Q (k + 1) s = pats Q k s := by simp [pats, h]

/-- THE MAP OF PATCHES UNDER WAY: k are laid. w: the world in which it was begun: the map is block w.heap.size. -/
structure Pats (w : World) (Q : Nat → Pat) (k : Nat) (f : ByteArray → Option Value) (wr : World) : Prop where
  below : Below w.heap.size w wr
  size : w.heap.size + 1 ≤ wr.heap.size
  map : StrMap Trym.prog 9 wr w.heap.size k f
  none : ∀ s, f s = none ↔ pats Q k s = []
  rows : ∀ s v, f s = some v → wr.ownsRow (w.heap.size + 1) 84 7 v (pats Q k s).length ((pats Q k s).flatMap pc)
  apart : ∀ s t u v, s ≠ t → f s = some u → f t = some v → u.ownBlock ≠ v.ownBlock

theorem Pats.drew {w : World} {Q : Nat → Pat} {k : Nat} {f : ByteArray → Option Value} {wr : World} (h : Pats w Q k f wr) : Pats w Q k f wr.drew := ⟨h.below.drew, h.size, h.map, h.none, h.rows, h.apart⟩

theorem newPats_any (w : World) (Q : Nat → Pat) : Calls Trym.prog 15 #[] w fun e w' => e = .returned (.map (some w.heap.size)) ∧ Pats w Q 0 (fun _ => .none) w' := by
  have hmm := @run_makeMap Trym.prog
  go_enter Trym.func15, Trym.ntmps15
  go_wp2
  go_ret
  exact ⟨rfl, (Below.refl _ _).alloc (Nat.le_refl _) _, by simp, StrMap.made w _ _, fun s => ⟨fun _ => rfl, fun _ => rfl⟩, fun s v h => (by cases h), fun s t u v _ h => (by cases h)⟩

/-- The slice at the next patch's id, whether there is one or not. -/
theorem Pats.at {w : World} {Q : Nat → Pat} {k : Nat} {f : ByteArray → Option Value} {wr : World} (h : Pats w Q k f wr) (s : ByteArray) : wr.ownsRow (w.heap.size + 1) 84 7 ((f s).getD (.slice .none 0 0)) (pats Q k s).length ((pats Q k s).flatMap pc) := by
  cases hf : f s with
  | none =>
    rw [(h.none s).1 hf]
    exact World.ownsRow_nil _ _ _ _
  | some v => exact h.rows s v hf

theorem Pats.step {w : World} {Q : Nat → Pat} {k : Nat} {f : ByteArray → Option Value} {wr w1 w2 : World} {v' : Value} (h : Pats w Q k f wr)
    (hown : w1.ownsRow (w.heap.size + 1) 84 7 v' ((pats Q k (Q k).id).length + 1) ((pats Q k (Q k).id).flatMap pc ++ pc (Q k)))
    (hg : (wr.alloc (.cells (pc (Q k)).toArray 84)).grownBy w1 ((f (Q k).id).getD (.slice .none 0 0)).ownBlock)
    (hloc : v'.ownBlock = ((f (Q k).id).getD (.slice .none 0 0)).ownBlock ∨ v'.ownBlock = some (wr.heap.size + 1))
    (hm2 : StrMap Trym.prog 9 w2 w.heap.size (k + 1) (upd f (Q k).id v')) (hg2 : w1.grownBy w2 (some w.heap.size)) :
    Pats w Q (k + 1) (upd f (Q k).id v') w2 := by
  have hsz := h.size
  have hu := h.at (Q k).id
  have hub : ∀ g, ((f (Q k).id).getD (.slice .none 0 0)).ownBlock = some g → w.heap.size + 1 ≤ g ∧ g < wr.heap.size := fun g hg => hu.lt g hg
  have hs1 : wr.heap.size + 1 ≤ w1.heap.size := by have := hg.size; simp at this; omega
  -- a slice at another id: it is no nil slice, and lies apart
  have oth : ∀ s v, s ≠ (Q k).id → f s = some v → v.ownBlock ≠ .none ∧ v.ownBlock ≠ ((f (Q k).id).getD (.slice .none 0 0)).ownBlock ∧ ∀ g, v.ownBlock = some g → w.heap.size + 1 ≤ g ∧ g < wr.heap.size := by
    intro s v hs hv
    have hr := h.rows s v hv
    have hne : pats Q k s ≠ [] := fun e => by rw [(h.none s).2 e] at hv; cases hv
    obtain ⟨g, cap, rfl, _, _⟩ := ownsRow_some hr (by cases hp : pats Q k s with | nil => exact absurd hp hne | cons _ _ => simp)
    refine ⟨by simp [Value.ownBlock], ?_, fun g hg => hr.lt g hg⟩
    cases hf : f (Q k).id with
    | none => simp [Value.ownBlock]
    | some u => exact h.apart s (Q k).id _ u hs hv hf
  have hv'b := hown.lt
  refine ⟨?_, by have := hg2.size; omega, hm2, ?_, ?_, ?_⟩
  · refine Below.grown (row := some w.heap.size) ?_ hg2 (by omega) (fun j hj => by cases hj; exact Nat.le_refl _)
    refine Below.grown (h.below.alloc (by omega) _) hg (by simp; omega) (fun g hg => by have := (hub g hg).1; omega)
  · intro s
    by_cases e : s = (Q k).id
    · subst e
      rw [upd_same, pats_same]
      simp
    · rw [upd_other f v' e, pats_other Q e]
      exact h.none s
  · intro s v hv
    by_cases e : s = (Q k).id
    · subst e
      rw [upd_same] at hv
      cases hv
      rw [pats_same]
      have hfin := hown.kept hg2 (by
        cases hob : v'.ownBlock with
        | none => exact .inl rfl
        | some g => right; intro e; have := (hv'b g hob).1; cases e; omega)
      simpa using hfin
    · rw [upd_other f v' e] at hv
      rw [pats_other Q e]
      obtain ⟨_, o2, o3⟩ := oth s v e hv
      refine World.ownsRow.kept (((h.rows s v hv).alloc _).kept hg (.inr o2)) hg2 ?_
      cases hob : v.ownBlock with
      | none => exact .inl rfl
      | some g => right; intro e; have := (o3 g hob).1; cases e; omega
  · have far : ∀ s v, s ≠ (Q k).id → f s = some v → v'.ownBlock ≠ v.ownBlock := by
      intro s v hs hv e
      obtain ⟨o1, o2, o3⟩ := oth s v hs hv
      rcases hloc with hl | hl
      · exact o2 (by rw [← e, hl])
      · rw [hl] at e
        have := (o3 _ e.symm).2
        omega
    intro s t u v hst hu' hv
    by_cases e : s = (Q k).id
    · subst e
      rw [upd_same] at hu'
      cases hu'
      rw [upd_other f v' (fun e => hst e.symm)] at hv
      exact far t v (fun e => hst e.symm) hv
    · rw [upd_other f v' e] at hu'
      by_cases e2 : t = (Q k).id
      · subst e2
        rw [upd_same] at hv
        cases hv
        exact fun e3 => far s u e hu' e3.symm
      · rw [upd_other f v' e2] at hv
        exact h.apart s t u v hst hu' hv

set_option maxHeartbeats 1000000 in
set_option maxRecDepth 100000 in
/-- ZZAddPatch. -/
theorem addPat_any (w : World) (Q : Nat → Pat) (k : Nat) (f : ByteArray → Option Value) (wr : World) (hk : k < 65536) (hs : (Q k).id.size ≤ maxLen) (h : Pats w Q k f wr) :
    Calls Trym.prog 16 #[.map (some w.heap.size), .string (Q k).id, .string (Q k).st, .bool (Q k).closed, .string (Q k).reason, .string (Q k).note] wr fun e w' => e = .returned (.tuple #[]) ∧ ∃ f', Pats w Q (k + 1) f' w' := by
  have hlook := (h.map.look Trym.underlying9 Trym.underlying33 (zero48 wr) hs).1
  have hown := h.at (Q k).id
  have hlen := pats_len Q (Q k).id k
  obtain ⟨i0, hi, hz0, hz1, hz2⟩ := info_parts Trym.info84
  have hsz := h.size
  have H : Hid (Pats w Q k f wr) := h
  clear h
  obtain ⟨u, hu⟩ : ∃ u, u = (f (Q k).id).getD (.slice .none 0 0) := ⟨_, rfl⟩
  have HU : Hid (u = (f (Q k).id).getD (.slice .none 0 0)) := hu
  rw [← hu] at hlook hown
  clear hu
  go_enter Trym.func16, Trym.ntmps16
  go_wp2_with (at_builtin; refine wpList_append_own_at _ rfl _ _ 48 rfl (w.heap.size + 1) 84 i0 _ 7 80 Trym.underlying48 hi hz0 hz1 hz2 rfl (by decide) _ _ _ rfl (hown.alloc _) ⟨wr.heap.size, 0, none⟩ 1 1 (pc (Q k)) rfl rfl ?hn ?h1 ?hl ?hb ?hz ?_)
  case hn => exact cells_new rfl (pc (Q k)) 84
  case h1 => intro u hu; simp [pc] at hu; rcases hu with rfl | rfl | rfl | rfl | rfl | rfl | rfl <;> rfl
  case hl => unfold maxLen; omega
  case hb => omega
  case hz => simp; omega
  intro v' w1 hown1 hg1 _ hloc
  have hm1 : StrMap Trym.prog 9 w1 w.heap.size k f := by
    refine H.out.map.of_block ?_
    have hub : ∀ g, u.ownBlock = some g → w.heap.size + 1 ≤ g := fun g hg => (hown.lt g hg).1
    rw [hg1.block _ (by simp; omega) (fun e => by have := hub _ e.symm; omega), Below.heap_alloc _ _ _ (by omega)]
  obtain ⟨w2, hrun, hm2, hg2, _⟩ := hm1.store Trym.underlying9 Trym.underlying33 (by unfold maxLen; omega) hs v'
  have hfin : Pats w Q (k + 1) (upd f (Q k).id v') w2 := by
    have e := HU.out
    subst e
    exact H.out.step hown1 hg1 (by simpa using hloc) hm2 hg2
  clear hown1 hg1 hloc hm1 hm2 hg2 hown H HU
  go_wp2
  go_end0
  exact ⟨rfl, _, hfin⟩

end Go.Proofs.Qxb6609442aMods
