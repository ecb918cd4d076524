import Derived.Test.Qxb6609442aModsPlaces
namespace Go.Proofs.Qxb6609442aMods
open Go.RowKit
set_option linter.unusedVariables false

theorem Trym.info69 : (Trym.prog.info? 69).map (fun i => (i.zero, i.size, i.bytes)) = some (some (.agg #[.int .i64 0, .int .i64 0, .int .i64 0, .pointer none]), 4, 32) := by kernel_rfl

/-- The cells of an item with an id and a status. -/
def itemCells (id st : ByteArray) : Array Value :=
  #[.string id, .string ⟨#[]⟩, .string ⟨#[]⟩, .string ⟨#[]⟩, .string st, .int .i64 0, .string ⟨#[]⟩, .int .u64 0, .int .i64 0, .pointer none, .int .u64 0, .int .i64 0, .pointer none, .pointer none, .string ⟨#[]⟩, .string ⟨#[]⟩, .slice none 0 0, .slice none 0 0, .slice none 0 0]

/-- The cells of a new snapshot, its map in block B, its records v. -/
def snapCells (B : Nat) (v : Value) : Array Value := #[.int .i64 0, .int .u32 0, .int .u32 0, v, .map (some B), .int .u32 0, .int .i32 0, .int .u32 0, .pointer none]

/-! ### small laws on worlds -/
theorem ownsRow_cell {w : World} {base e size g n cap : Nat} {xs : List Value} (h : w.ownsRow base e size (.slice (some ⟨g, 0, none⟩) n cap) n xs) {j : Nat} {u : Value} (hj : xs[j]? = some u) : w.cell? ⟨g, j, none⟩ = some u := by
  rcases h.2 with ⟨h0, _⟩ | ⟨g', cap', cur, hv, _, hg, _, _, _, ht⟩
  · cases h0
  · cases hv
    subst ht
    have hj' : cur[j]? = some u := by
      rw [List.getElem?_take] at hj
      split at hj
      · simpa using hj
      · cases hj
    simp [World.cell?, hg, hj']

theorem ownsRow_shape {w : World} {base e size n : Nat} {v : Value} {xs : List Value} (h : w.ownsRow base e size v n xs) : ∃ ao cap, v = .slice ao n cap := by
  rcases h.2 with ⟨rfl, rfl⟩ | ⟨g, cap, _, rfl, _⟩
  · exact ⟨none, 0, rfl⟩
  · exact ⟨_, cap, rfl⟩

theorem ownsRow_some {w : World} {base e size n : Nat} {v : Value} {xs : List Value} (h : w.ownsRow base e size v n xs) (hn : 0 < n) : ∃ g cap, v = .slice (some ⟨g, 0, none⟩) n cap ∧ base ≤ g ∧ g < w.heap.size := by
  rcases h.2 with ⟨_, h0⟩ | ⟨g, cap, _, rfl, hb, hg, _⟩
  · omega
  · exact ⟨g, cap, rfl, hb, (Array.getElem?_eq_some_iff.1 hg).1⟩

theorem cells_new {w : World} {n : Nat} (hn : w.heap.size = n) (xs : List Value) (t : TypeId) : ∀ j u, xs[j]? = some u → (w.alloc (.cells xs.toArray t)).cell? ((⟨n, 0, none⟩ : Addr).add j) = some u := by
  intro j u h
  subst hn
  have hb : (w.alloc (.cells xs.toArray t)).heap[w.heap.size]? = some (.cells xs.toArray t (0, 0)) := heap_alloc_new w _
  rw [Addr.add_lit, Nat.zero_add]
  simp only [World.cell?]
  rw [hb]
  simpa using h

/-- THE SNAPSHOT UNDER WAY: k records are laid. w: the world in which it was begun: its map is block w.heap.size, the struct the next one. -/
structure Snap (w : World) (I T : Nat → ByteArray) (k : Nat) (wr : World) : Prop where
  below : Below w.heap.size w wr
  size : w.heap.size + 2 ≤ wr.heap.size
  map : StrMap Trym.prog 9 wr w.heap.size k (plcF I k)
  recs : ∃ v xs fs, wr.rowIs (w.heap.size + 1) 66 9 fs ∧ fs 3 = v ∧ fs 4 = .map (some w.heap.size) ∧ wr.ownsRow (w.heap.size + 2) 69 4 v k xs ∧
    ∀ i, i < k → ∃ bi, xs[i * 4 + 3]? = some (.pointer (some ⟨bi, 0, none⟩)) ∧ w.heap.size + 2 ≤ bi ∧ wr.heap[bi]? = some (.cells (itemCells (I i) (T i)) 80 (0, 0)) ∧ v.ownBlock ≠ some bi

theorem Snap.drew {w : World} {I T : Nat → ByteArray} {k : Nat} {wr : World} (h : Snap w I T k wr) : Snap w I T k wr.drew := ⟨h.below.drew, h.size, h.map, h.recs⟩

set_option maxHeartbeats 1000000 in
theorem newSnap_any (w : World) (I T : Nat → ByteArray) : Calls Trym.prog 13 #[] w fun e w' => e = .returned (.pointer (some ⟨w.heap.size + 1, 0, none⟩)) ∧ Snap w I T 0 w' := by
  have hmm := @run_makeMap Trym.prog
  go_enter Trym.func13, Trym.ntmps13
  go_wp2
  go_ret
  refine ⟨rfl, ((Below.refl _ _).alloc (Nat.le_refl _) _).alloc (by simp) _, by simp, ?_, .slice none 0 0, [], fun i => (snapCells w.heap.size (.slice none 0 0))[i]?.getD undef, ?_, rfl, rfl, World.ownsRow_nil _ _ _ _, fun i h => by omega⟩
  · exact (StrMap.made w Trym.prog 9).of_block (Below.heap_alloc _ _ _ (by simp))
  · have h := World.rowIs_alloc (w.alloc (.map #[] 0)) (snapCells w.heap.size (.slice none 0 0)) 66 (fun i => (snapCells w.heap.size (.slice none 0 0))[i]?.getD undef) (fun i hi => by rw [Array.getElem?_eq_getElem hi]; rfl)
    have e1 : (w.alloc (.map #[] 0)).heap.size = w.heap.size + 1 := by simp
    rw [e1] at h
    exact h

/-- What ZZAddRecord's store into the map and its append leave, joined. -/
theorem Snap.step {w : World} {I T : Nat → ByteArray} {k : Nat} {wr w1 w2 : World} {v v' : Value} {xs : List Value} {fs : Nat → Value}
    (h : Snap w I T k wr) (hrow : wr.rowIs (w.heap.size + 1) 66 9 fs) (h3 : fs 3 = v) (h4 : fs 4 = .map (some w.heap.size)) (hown : wr.ownsRow (w.heap.size + 2) 69 4 v k xs)
    (hit : ∀ i, i < k → ∃ bi, xs[i * 4 + 3]? = some (.pointer (some ⟨bi, 0, none⟩)) ∧ w.heap.size + 2 ≤ bi ∧ wr.heap[bi]? = some (.cells (itemCells (I i) (T i)) 80 (0, 0)) ∧ v.ownBlock ≠ some bi)
    (hm1 : StrMap Trym.prog 9 w1 w.heap.size (k + 1) (plcF I (k + 1))) (hg1 : wr.grownBy w1 (some w.heap.size)) (hs1 : w1.heap.size = wr.heap.size)
    (hown' : w2.ownsRow (w.heap.size + 2) 69 4 v' (k + 1) (xs ++ [.int .i64 ((k : Int) + 1), .int .i64 0, .int .i64 0, .pointer (some ⟨w1.heap.size, 0, none⟩)]))
    (hg2 : ((w1.alloc (.cells (itemCells (I k) (T k)) 80)).alloc (.cells #[.int .i64 ((k : Int) + 1), .int .i64 0, .int .i64 0, .pointer (some ⟨w1.heap.size, 0, none⟩)] 69)).grownBy w2 v.ownBlock)
    (hloc : v'.ownBlock = v.ownBlock ∨ v'.ownBlock = some (w1.heap.size + 2)) :
    Snap w I T (k + 1) (w2.setCell ⟨w.heap.size + 1, 3, none⟩ v') := by
  have hsz := h.size
  have hs2 : w1.heap.size + 2 ≤ w2.heap.size := by have := hg2.size; simp at this; omega
  -- where v lies
  have hvb : ∀ g, v.ownBlock = some g → w.heap.size + 2 ≤ g ∧ g < wr.heap.size := fun g hg => hown.lt g hg
  -- an old block that is none of the two that are written
  have old : ∀ j, j < wr.heap.size → j ≠ w.heap.size → j ≠ w.heap.size + 1 → v.ownBlock ≠ some j → (w2.setCell ⟨w.heap.size + 1, 3, none⟩ v').heap[j]? = wr.heap[j]? := by
    intro j hj hj1 hj2 hj3
    rw [Below.heap_setCell _ _ _ _ hj2, hg2.block j (by simp; omega) (fun e => hj3 e.symm), Below.heap_alloc _ _ _ (by simp; omega), Below.heap_alloc _ _ _ (by omega)]
    exact hg1.block j hj (fun e => hj1 (Option.some.inj e))
  have nb : v.ownBlock ≠ some w.heap.size := fun e => by have := (hvb _ e).1; omega
  have nb1 : v.ownBlock ≠ some (w.heap.size + 1) := fun e => by have := (hvb _ e).1; omega
  have nbw : v.ownBlock ≠ some w1.heap.size := fun e => by have := (hvb _ e).2; omega
  have hW : ∀ j, j < w1.heap.size → v.ownBlock ≠ some j → w2.heap[j]? = w1.heap[j]? := by
    intro j hj hj3
    rw [hg2.block j (by simp; omega) (fun e => hj3 e.symm), Below.heap_alloc _ _ _ (by simp; omega), Below.heap_alloc _ _ _ (by omega)]
  refine ⟨?_, by simp [World.setCell]; omega, ?_, v', _, fun j => if j = 3 then v' else fs j, ?_, by simp, by simpa using h4, ownsRow_setCell_below hown' (by simp) _, ?_⟩
  · refine Below.setCell ?_ (by simp) _
    refine Below.grown (row := v.ownBlock) ?_ hg2 (by simp; omega) (fun g hg => by have := (hvb g hg).1; omega)
    refine Below.alloc (Below.alloc ?_ (by omega) _) (by simp; omega) _
    exact h.below.grown hg1 (by omega) (fun j hj => by cases hj; exact Nat.le_refl _)
  · refine hm1.of_block ?_
    rw [Below.heap_setCell _ _ _ _ (by simp)]
    exact hW _ (by omega) nb
  · refine World.rowIs.set (f := fs) ?_ 3 v'
    refine hrow.of_block ?_
    rw [hW _ (by omega) nb1]
    exact hg1.block _ (by omega) (by simp)
  · intro i hi
    by_cases e : i = k
    · subst e
      refine ⟨w1.heap.size, ?_, by omega, ?_, ?_⟩
      · rw [List.getElem?_append_right (by rw [hown.1]; omega), hown.1, show i * 4 + 3 - i * 4 = 3 by omega]
        rfl
      · rw [Below.heap_setCell _ _ _ _ (by simp; omega), hg2.block _ (by simp; omega) (fun e => nbw e.symm), Below.heap_alloc _ _ _ (by simp)]
        exact heap_alloc_new w1 _
      · rcases hloc with e | e
        · rw [e]; exact nbw
        · rw [e]; intro e'; have := Option.some.inj e'; omega
    · obtain ⟨bi, x1, x2, x3, x4⟩ := hit i (by omega)
      have hbi : bi < wr.heap.size := (Array.getElem?_eq_some_iff.1 x3).1
      refine ⟨bi, ?_, x2, ?_, ?_⟩
      · rw [List.getElem?_append_left (by rw [hown.1]; omega)]
        exact x1
      · rw [old bi hbi (by omega) (by omega) x4]
        exact x3
      · rcases hloc with e | e
        · rw [e]; exact x4
        · rw [e]; intro e'; have := Option.some.inj e'; omega

set_option maxHeartbeats 1000000 in
set_option maxRecDepth 100000 in
theorem addRec_any (w : World) (I T : Nat → ByteArray) (k : Nat) (wr : World) (hk : k < 65536) (hs : (I k).size ≤ maxLen) (h : Snap w I T k wr) :
    Calls Trym.prog 14 #[.pointer (some ⟨w.heap.size + 1, 0, none⟩), .string (I k), .string (T k)] wr fun e w' => e = .returned (.tuple #[]) ∧ Snap w I T (k + 1) w' := by
  obtain ⟨v, xs, fs, hrow, h3, h4, hown, hit⟩ := h.recs
  obtain ⟨w1, hrun, hm1, hg1, hs1⟩ := h.map.store Trym.underlying9 Trym.underlying26 (by unfold maxLen; omega) hs (.int .i64 (k : Int))
  rw [plcF_step] at hm1
  obtain ⟨i0, hi, hz0, hz1, hz2⟩ := info_parts Trym.info69
  obtain ⟨ao, cap, hv⟩ := ownsRow_shape hown
  have c3 : wr.cell? ⟨w.heap.size + 1, 3, none⟩ = some (.slice ao k cap) := by rw [hrow.cell (by omega), h3, hv]
  have c4 : wr.cell? ⟨w.heap.size + 1, 4, none⟩ = some (.map (some w.heap.size)) := by rw [hrow.cell (by omega), h4]
  have d3 : w1.cell? ⟨w.heap.size + 1, 3, none⟩ = some (.slice ao k cap) := grown_cell hg1 c3 (by simp)
  have hown1 : w1.ownsRow (w.heap.size + 2) 69 4 v k xs := hown.kept hg1 (by
    cases hob : v.ownBlock with
    | none => exact .inl rfl
    | some g => right; intro e; have := (hown.lt g hob).1; cases e; omega)
  have hwsz := h.size
  have hstep := fun w2 v' => h.step hrow h3 h4 hown hit hm1 hg1 hs1 (w2 := w2) (v' := v')
  have HS : Hid _ := hstep
  have hrow1 : w1.rowIs (w.heap.size + 1) 66 9 fs := hrow.of_block (hg1.block _ (by omega) (by simp))
  have HROW : Hid (w1.rowIs (w.heap.size + 1) 66 9 fs ∧ fs 3 = v) := ⟨hrow1, h3⟩
  have HVB : Hid (∀ g, v.ownBlock = some g → w.heap.size + 2 ≤ g ∧ g < wr.heap.size) := fun g hg => hown.lt g hg
  clear hrow1
  subst hv
  have HSZ : Hid (w1.heap.size = wr.heap.size) := hs1
  clear hstep hrow h3 h4 hit hm1 h hown hs1
  go_enter Trym.func14, Trym.ntmps14
  go_wp2_with (at_builtin; refine wpList_append_own_at _ rfl _ _ 52 rfl (w.heap.size + 2) 69 i0 _ 4 32 Trym.underlying52 hi hz0 hz1 hz2 rfl (by decide) _ _ _ rfl ((hown1.alloc _).alloc _) ⟨w1.heap.size + 1, 0, none⟩ 1 1 [.int .i64 ((k : Int) + 1), .int .i64 0, .int .i64 0, .pointer (some ⟨w1.heap.size, 0, none⟩)] rfl rfl ?hn ?h1 ?hl ?hb ?hz ?_)
  case hn => exact cells_new (by simp) [.int .i64 ((k : Int) + 1), .int .i64 0, .int .i64 0, .pointer (some ⟨w1.heap.size, 0, none⟩)] 69
  case h1 => intro u hu; simp at hu; rcases hu with rfl | rfl | rfl <;> rfl
  case hl => unfold maxLen; omega
  case hb => omega
  case hz => have := HSZ.out; simp; omega
  intro v' w2 hown2 hg2 _ hloc
  have hrow2 : w2.rowIs (w.heap.size + 1) 66 9 fs := by
    refine HROW.out.1.of_block ?_
    have := HSZ.out
    rw [hg2.block _ (by simp; omega) (fun e => by have := (HVB.out _ e.symm).1; omega), Below.heap_alloc _ _ _ (by simp; omega), Below.heap_alloc _ _ _ (by omega)]
  have e3 : w2.cell? ⟨w.heap.size + 1, 3, none⟩ = some (.slice ao k cap) := by rw [hrow2.cell (by omega), HROW.out.2]
  have q3 : w2.frozen? ⟨w.heap.size + 1, 3, none⟩ = false := hrow2.frozen 3
  have hfin := HS.out w2 v' hown2 hg2 (by simpa using hloc)
  obtain ⟨g', cap', hv', _, _⟩ := ownsRow_some hown2 (by omega)
  subst hv'
  clear hrow2 hown2 hg2 hloc HS
  go_wp2
  go_end0
  exact ⟨rfl, hfin⟩

set_option maxHeartbeats 1000000 in
/-- zzBuildSnapshot. -/
theorem buildSnap_any (a : Option Addr) (nr cr : Nat) (I T : Nat → ByteArray) (w : World) (hnr : nr ≤ 65536) (hR : RecRow w a nr I T) :
    Calls Trym.prog 8 #[.slice a nr cr] w fun e w' => e = .returned (.pointer (some ⟨w.heap.size + 1, 0, none⟩)) ∧ Snap w I T nr w' := by
  have H : Hid (RecRow w a nr I T) := hR
  clear hR
  go_enter Trym.func8, Trym.ntmps8
  go_wp2_with fail
  refine (newSnap_any w I T).mono ?_
  rintro e w0 ⟨rfl, h0⟩
  go_wp2_with fail
  go_loopw [4] (fun i wr => ∃ k : Nat, k ≤ nr ∧ i = .int .i64 k ∧ Snap w I T k wr) (fun i _ => nr - (intOf i).toNat)
  case atStart => exact ⟨0, Nat.zero_le _, rfl, h0⟩
  case round =>
    obtain ⟨k, hk, rfl, hsn⟩ := hrel
    by_cases hlt : k < nr
    · obtain ⟨b, off, ha, hcs⟩ := H.out (by omega)
      obtain ⟨x1, x2, hs1, -⟩ := hcs k hlt
      clear hcs
      subst ha
      have y1 : wr.cell? ⟨b, off + k * 2, none⟩ = some (.string (I k)) := by rw [hsn.below.cell (p := ⟨b, off + k * 2, none⟩) (lt_of_cell x1)]; exact x1
      have y2 : wr.cell? ⟨b, off + k * 2 + 1, none⟩ = some (.string (T k)) := by rw [hsn.below.cell (p := ⟨b, off + k * 2 + 1, none⟩) (lt_of_cell x2)]; exact x2
      clear x1 x2
      have hkn : (k : Int) < (nr : Int) := by omega
      go_wp2_with fail
      go_region_with (go_at_call 14; refine (addRec_any w I T k _ (by omega) hs1 hsn.drew).mono ?_; rintro e w' ⟨rfl, hsn'⟩)
      all_goals
        go_wp2_with fail
        go_roundw
        case rel => exact ⟨k + 1, by omega, by go_num, hsn'⟩
        case measure => simp [intOf]; omega
    · have hkm : k = nr := by omega
      subst hkm
      go_wp2
      go_ret
      exact ⟨rfl, hsn⟩
end Go.Proofs.Qxb6609442aMods
