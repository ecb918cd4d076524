import Derived.Test.Qxb6609442aModsBuild
import Derived.Deep.WholeRow
namespace Go.Proofs.Qxb6609442aMods
open Go.RowKit
set_option linter.unusedVariables false

/-- The status that an id's patches leave: the last one's. -/
def lastOf (l : List Pat) : ByteArray := (l.getLast?.map Pat.st).getD ⟨#[]⟩

/-- Does the snapshot bear this id's patches? -/
def good (I T : Nat → ByteArray) (Q : Nat → Pat) (nr np : Nat) (s : ByteArray) : Bool :=
  match plc I nr s with
  | none => false
  | some i => !doneB (T i) || doneB (lastOf (pats Q np s))

theorem good_none {I T : Nat → ByteArray} {Q : Nat → Pat} {nr np : Nat} {s : ByteArray} (h : plc I nr s = none) : good I T Q nr np s = false := by simp [good, h]
theorem good_some {I T : Nat → ByteArray} {Q : Nat → Pat} {nr np : Nat} {s : ByteArray} {i : Nat} (h : plc I nr s = some i) : good I T Q nr np s = (!doneB (T i) || doneB (lastOf (pats Q np s))) := by simp [good, h]

/-- What takes answers. -/
def TakesPost (f : ByteArray → Option Value) (I T : Nat → ByteArray) (Q : Nat → Pat) (nr np : Nat) (e : Ending) : Prop :=
  ∃ t : Bool, e = .returned (.bool t) ∧ (t = true ↔ ∀ s, (f s).isSome = true → good I T Q nr np s = true)

theorem TakesPost.no {f : ByteArray → Option Value} {I T : Nat → ByteArray} {Q : Nat → Pat} {nr np : Nat} {s : ByteArray} {v : Value} (hf : f s = some v) (hg : good I T Q nr np s = false) : TakesPost f I T Q nr np (.returned (.bool false)) :=
  ⟨false, rfl, ⟨fun h => (by cases h), fun h => (by have := h s (by rw [hf]; rfl); rw [hg] at this; cases this)⟩⟩

/-- What takes is handed: the snapshot in block bs, its map in bm, the map of patches in bp. -/
structure Stage (w : World) (bs bm bp : Nat) (ao : Option Addr) (cap : Nat) (I T : Nat → ByteArray) (Q : Nat → Pat) (nr np : Nat) (f : ByteArray → Option Value) : Prop where
  c3 : w.cell? ⟨bs, 3, none⟩ = some (.slice ao nr cap)
  c4 : w.cell? ⟨bs, 4, none⟩ = some (.map (some bm))
  places : StrMap Trym.prog 9 w bm nr (plcF I nr)
  recs : ∀ i, i < nr → ∃ g bi, ao = some ⟨g, 0, none⟩ ∧ w.cell? ⟨g, i * 4 + 3, none⟩ = some (.pointer (some ⟨bi, 0, none⟩)) ∧ w.heap[bi]? = some (.cells (itemCells (I i) (T i)) 80 (0, 0))
  patches : StrMap Trym.prog 9 w bp np f
  rows : ∀ s v, f s = some v → ∃ g c, v = .slice (some ⟨g, 0, none⟩) (pats Q np s).length c ∧ 0 < (pats Q np s).length ∧ ∀ j q, (pats Q np s)[j]? = some q → PatAt w g (j * 7) q ∧ q.note.size ≤ 1048576

theorem Stage.later {w w' : World} {bs bm bp : Nat} {ao : Option Addr} {cap : Nat} {I T : Nat → ByteArray} {Q : Nat → Pat} {nr np : Nat} {f : ByteArray → Option Value} (h : Stage w bs bm bp ao cap I T Q nr np f) (hb : Below w.heap.size w w') : Stage w' bs bm bp ao cap I T Q nr np f := by
  have old : ∀ {b o : Nat} {v : Value}, w.cell? ⟨b, o, none⟩ = some v → w'.cell? ⟨b, o, none⟩ = some v := by
    intro b o v hc
    rw [hb.cell (p := ⟨b, o, none⟩) (lt_of_cell hc)]
    exact hc
  refine ⟨old h.c3, old h.c4, h.places.of_block (hb.block _ h.places.lt), ?_, h.patches.of_block (hb.block _ h.patches.lt), ?_⟩
  · intro i hi
    obtain ⟨g, bi, ha, hc, hbl⟩ := h.recs i hi
    exact ⟨g, bi, ha, old hc, (hb.block bi (Array.getElem?_eq_some_iff.1 hbl).1).trans hbl⟩
  · intro s v hv
    obtain ⟨g, c, hv', hp, hq⟩ := h.rows s v hv
    refine ⟨g, c, hv', hp, fun j q hj => ⟨?_, (hq j q hj).2⟩⟩
    obtain ⟨h0, h1, h2, h3, h4, h5, h6⟩ := (hq j q hj).1
    exact ⟨old h0, old h1, old h2, old h3, old h4, old h5, old h6⟩

theorem item_cell {w : World} {b : Nat} {id st : ByteArray} (h : w.heap[b]? = some (.cells (itemCells id st) 80 (0, 0))) {j : Nat} {v : Value} (hj : (itemCells id st)[j]? = some v) : w.cell? ⟨b, j, none⟩ = some v := by
  simp only [World.cell?]
  rw [h]
  simpa using hj

theorem item_size (id st : ByteArray) : (Trym.prog.info? 80).map (·.size) = some (itemCells id st).size := by kernel_rfl
theorem item_one (id st : ByteArray) : (itemCells id st).all (·.oneCell') = true := by kernel_rfl

/-- A whole struct stored into the block that was made last, at the operation. -/
theorem wpList_store_new {P : Program} {ops : Array Oper} {rest : List Oper} {o : Oper} {a : Act} {Q : Exit → Act → World → Prop} (hgd : o.guard = none) (ty : TypeId) (x y : Operand) (ho : o.op = .store ty x y) (w : World) (c c' : Array Value)
    (hx : a.eval x = .pointer (some ⟨w.heap.size, 0, none⟩)) (hy : a.eval y = .agg c') (hi : (P.info? ty).map (·.size) = some c'.size) (hs : c.size = c'.size) (h1 : c'.all (·.oneCell') = true)
    (h : wpList P ops Q rest (a.put o.dst undef) (w.alloc (.cells c' ty))) : wpList P ops Q (o :: rest) a (w.alloc (.cells c ty)) := by
  refine wpList_plain hgd fun K hK => ?_
  have hrun := run_storeAt_new (P := P) w ty c c' hi hs h1
  unfold Oper.wp
  simp [execOp, ho, hx, hy, hrun, Result.andThen]
  exact hK _ _ h

/-- A new copy of an item: nothing has been made to it. -/
theorem made_new (w : World) (id st : ByteArray) (Q : Nat → Pat) : Made (w.alloc (.cells (itemCells id st) 80)) w.heap.size st Q 0 (w.alloc (.cells (itemCells id st) 80)) :=
  ⟨⟨fun i => (itemCells id st)[i]?.getD undef, ⟨#[]⟩, World.rowIs_alloc w (itemCells id st) 80 _ (fun i hi => by rw [Array.getElem?_eq_getElem hi]; rfl), rfl, rfl, Nat.le_refl _⟩, World.grownBy.refl _ _⟩

/-- An id's patches by index. -/
def byIdx (l : List Pat) (q0 : Pat) (j : Nat) : Pat := l[j]?.getD q0

theorem lastSt_byIdx (st : ByteArray) (l : List Pat) (q0 : Pat) (h : 0 < l.length) : lastSt st (byIdx l q0) l.length = lastOf l := by
  obtain ⟨m, hm⟩ : ∃ m, l.length = m + 1 := ⟨l.length - 1, by omega⟩
  rw [hm]
  show (byIdx l q0 m).st = _
  unfold byIdx lastOf
  rw [List.getLast?_eq_getElem?, hm, Nat.add_sub_cancel, List.getElem?_eq_getElem (by omega)]
  rfl

theorem good_step {f : ByteArray → Option Value} {I T : Nat → ByteArray} {Q : Nat → Pat} {nr np : Nat} {left : ByteArray → Bool} {s : ByteArray} (h : ∀ t, (f t).isSome = true → left t = false → good I T Q nr np t = true) (hs : good I T Q nr np s = true) :
    ∀ t, (f t).isSome = true → (left t && !decide (t = s)) = false → good I T Q nr np t = true := by
  intro t h1 h2
  by_cases e : t = s
  · rw [e]; exact hs
  · exact h t h1 (by simpa [e] using h2)

/-- The patches of an id as applyAll wants them, behind the copy's block. -/
theorem pats_at {w : World} {g : Nat} {l : List Pat} (h : ∀ j q, l[j]? = some q → PatAt w g (j * 7) q ∧ q.note.size ≤ 1048576) (q0 : Pat) (o : Obj) : ∀ j, j < l.length → PatAt (w.alloc o) g (j * 7) (byIdx l q0 j) ∧ (byIdx l q0 j).note.size ≤ 1048576 := by
  intro j hj
  have e : byIdx l q0 j = l[j] := by unfold byIdx; rw [List.getElem?_eq_getElem hj]; rfl
  obtain ⟨h1, h2⟩ := h j l[j] (List.getElem?_eq_getElem hj)
  rw [e]
  exact ⟨h1.later (World.grownBy_alloc w o none) (by simp), h2⟩

/-- Behind applyAll: what takes goes on with. -/
theorem takes_after {w w1 w3 : World} {bp np cnt1 : Nat} {f : ByteArray → Option Value} {left' : ByteArray → Bool} {st : ByteArray} {Q' : Nat → Pat} {m : Nat} {o : Obj}
    (hm : Made (w1.alloc o) w1.heap.size st Q' m w3) (hrg : StrRanges Trym.prog 9 w1 bp w.heap.size np f left' cnt1) (hbel : Below w.heap.size w w1) (hsz : w.heap.size < w1.heap.size) :
    StrRanges Trym.prog 9 w3 bp w.heap.size np f left' cnt1 ∧ Below w.heap.size w w3 := by
  have old : ∀ j, j < w1.heap.size → w3.heap[j]? = w1.heap[j]? := fun j hj => by
    rw [hm.grown.block j (by simp; omega) (fun e => by have := Option.some.inj e; omega), Below.heap_alloc _ _ _ hj]
  refine ⟨hrg.kept (old _ hrg.owns.lt) (old _ hsz), ?_⟩
  exact (hbel.alloc (by omega) o).grown hm.grown (by simp; omega) (fun j hj => by cases hj; omega)

set_option maxHeartbeats 4000000 in
set_option maxRecDepth 100000 in
theorem takes_any (w : World) (bs bm bp : Nat) (ao : Option Addr) (cap : Nat) (I T : Nat → ByteArray) (Q : Nat → Pat) (nr np : Nat) (f : ByteArray → Option Value) (hnr : nr ≤ 65536) (hnp : np ≤ 65536) (h : Stage w bs bm bp ao cap I T Q nr np f) :
    Calls Trym.prog 12 #[.pointer (some ⟨bs, 0, none⟩), .map (some bp)] w fun e w' => TakesPost f I T Q nr np e ∧ Below w.heap.size w w' := by
  have HS : Hid (Stage w bs bm bp ao cap I T Q nr np f) := h
  clear h
  go_enter Trym.func12, Trym.ntmps12
  go_wp2_with (first | (at_range; refine wpList_range_str _ rfl _ 33 rfl 48 Trym.underlying9 Trym.underlying33 bp np f rfl HS.out.patches ?_; rintro w0 ⟨cnt0, hrg0⟩ hg0 hs0))
  go_frame
  go_loopw [5] (fun _ wr => ∃ left cnt, StrRanges Trym.prog 9 wr bp w.heap.size np f left cnt ∧ Below w.heap.size w wr ∧ Hid (∀ s, (f s).isSome = true → left s = false → good I T Q nr np s = true)) (fun _ wr => wr.rangeLeft bp w.heap.size)
  case atStart => exact ⟨_, _, hrg0, (Below.refl _ _).grown hg0 (Nat.le_refl _) (fun j hj => by cases hj), fun s h1 h2 => by rw [h1] at h2; cases h2⟩
  case round =>
    obtain ⟨left, cnt, hrg, hbel, hgood⟩ := hrel
    clear hrg0 hg0 hs0
    go_wp2_with (first | (at_next; refine wpList_next_str _ rfl _ rfl Trym.underlying9 bp w.heap.size np f left cnt rfl hrg ?_ ?_))
    · intro hl0
      go_wp2_with fail
      go_ret
      exact ⟨⟨true, rfl, ⟨fun _ s h1 => hgood.out s h1 (hl0 s), fun _ => rfl⟩⟩, hbel⟩
    · intro s v w1 cnt1 hs hls hfs hrg1 hlt hg1 hsz1 hen
      have hbel1 := hbel.grown hg1 (by have := hrg.lt; omega) (fun j hj => by cases hj; exact Nat.le_refl _)
      have hst := HS.out.later hbel1
      obtain ⟨g, c, hv, hpos, hpat⟩ := hst.rows s v hfs
      subst hv
      have hlook := (hst.places.look Trym.underlying9 Trym.underlying26 (zero3 w1) hs).2
      have c4 := hst.c4
      have c3 := hst.c3
      have HST : Hid (Stage w1 bs bm bp ao cap I T Q nr np f) := hst
      have HPAT : Hid (∀ j q, (pats Q np s)[j]? = some q → PatAt w1 g (j * 7) q ∧ q.note.size ≤ 1048576) := hpat
      have HRG1 : Hid (StrRanges Trym.prog 9 w1 bp w.heap.size np f (fun t => left t && !decide (t = s)) cnt1) := hrg1
      have HFS : Hid (f s = some (.slice (some ⟨g, 0, none⟩) (pats Q np s).length c)) := hfs
      have HSZ : Hid (w1.heap.size = wr.heap.size ∧ w.heap.size < wr.heap.size) := ⟨hsz1, hrg.lt⟩
      have HRG : Hid (StrRanges Trym.prog 9 wr bp w.heap.size np f left cnt) := hrg
      have HBEL : Hid (Below w.heap.size w w1) := hbel1
      clear hst hpat hrg1 hfs hsz1 hrg hbel hbel1 hg1 hls
      cases hp : plc I nr s with
      | none =>
        rw [show plcF I nr s = none by simp [plcF, hp]] at hlook
        simp only [Option.getD_none, Option.isSome_none] at hlook
        have hno := TakesPost.no HFS.out (good_none (T := T) (Q := Q) (np := np) hp)
        have HNO : Hid (TakesPost f I T Q nr np (.returned (.bool false))) := hno
        clear hno hp
        go_wp2_with fail
        go_ret
        exact ⟨HNO.out, HBEL.out⟩
      | some i =>
        rw [show plcF I nr s = some (.int .i64 (i : Int)) by simp [plcF, hp]] at hlook
        simp only [Option.getD_some, Option.isSome_some] at hlook
        have hi : i < nr := plc_lt hp
        have HG : Hid (good I T Q nr np s = (!doneB (T i) || doneB (lastOf (pats Q np s)))) := good_some hp
        clear hp
        obtain ⟨g2, bi, hao, hcp, hblk⟩ := HST.out.recs i hi
        subst hao
        have HBLK : Hid (w1.heap[bi]? = some (.cells (itemCells (I i) (T i)) 80 (0, 0))) := hblk
        clear hblk
        have hin : (i : Int) < (nr : Int) := by omega
        go_wp2_with (first | (refine wpList_load_row rfl 80 _ rfl bi rfl 80 _ (0, 0) _ HBLK.out Trym.underlying80 rfl (item_size _ _) ?_) | (refine wpList_store_new rfl 80 _ _ rfl w1 _ (itemCells (I i) (T i)) rfl rfl (item_size _ _) rfl (item_one _ _) ?_))
        have hgne : g ≠ w1.heap.size := by
          have h1 := HPAT.out 0 ((pats Q np s)[0]) (List.getElem?_eq_getElem hpos)
          have h2 := lt_of_cell h1.1.1
          omega
        have hlen := pats_len Q s np
        refine (applyAll_any w1.heap.size g (pats Q np s).length c (T i) (byIdx (pats Q np s) (Q 0)) _ (by omega) hgne (pats_at HPAT.out (Q 0) _) (made_new w1 (I i) (T i) _)).mono ?_
        rintro e w3 ⟨rfl, hmade⟩
        obtain ⟨f3, n3, hr3, h34, -, -⟩ := hmade.row
        rw [lastSt_byIdx _ _ _ hpos] at h34
        have d4 : w3.cell? ⟨w1.heap.size, 4, none⟩ = some (.string (lastOf (pats Q np s))) := by rw [hr3.cell (by omega), h34]
        have d0 : w3.cell? ⟨bi, 4, none⟩ = some (.string (T i)) := by
          have hb1 : w1.cell? ⟨bi, 4, none⟩ = some (.string (T i)) := item_cell HBLK.out rfl
          have hb2 := lt_of_cell hb1
          exact grown_cell hmade.grown (grown_cell (World.grownBy_alloc w1 _ none) hb1 (by simp)) (by intro e; have := Option.some.inj e; omega)
        obtain ⟨hrg3, hbel3⟩ := takes_after hmade HRG1.out HBEL.out (by have := HSZ.out; omega)
        have HRG3 : Hid (StrRanges Trym.prog 9 w3 bp w.heap.size np f (fun t => left t && !decide (t = s)) cnt1) := hrg3
        have HBEL3 : Hid (Below w.heap.size w w3) := hbel3
        clear hmade hr3 h34 hrg3 hbel3 hlook hen c3 c4 hcp hgne hlen
        cases hd : doneB (T i) with
        | false =>
          have hgs : good I T Q nr np s = true := by rw [HG.out, hd]; rfl
          have HGS : Hid (∀ t, (f t).isSome = true → (left t && !decide (t = s)) = false → good I T Q nr np t = true) := good_step hgood.out hgs
          have HD : Hid (doneB (T i) = false) := hd
          clear hgs hd
          go_wp2_with fail
          refine (done_any bi (T i) w3 d0).mono ?_
          rintro e w4 ⟨rfl, hw4⟩
          subst hw4
          rw [HD.out]
          go_wp2_with fail
          go_roundw
          case rel => exact ⟨_, _, HRG3.out, HBEL3.out, HGS⟩
          case measure => rw [HRG3.out.left_eq, HRG.out.left_eq]; exact hlt
        | true =>
          have HD : Hid (doneB (T i) = true) := hd
          clear hd
          go_wp2_with fail
          refine (done_any bi (T i) w3 d0).mono ?_
          rintro e w4 ⟨rfl, hw4⟩
          subst hw4
          rw [HD.out]
          go_wp2_with fail
          refine (done_any w1.heap.size (lastOf (pats Q np s)) w4 d4).mono ?_
          rintro e w5 ⟨rfl, hw5⟩
          subst hw5
          cases hl : doneB (lastOf (pats Q np s)) with
          | false =>
            have hgs : good I T Q nr np s = false := by rw [HG.out, HD.out, hl]; rfl
            have HNO : Hid (TakesPost f I T Q nr np (.returned (.bool false))) := TakesPost.no HFS.out hgs
            clear hgs hl
            go_wp2_with fail
            go_ret
            exact ⟨HNO.out, HBEL3.out⟩
          | true =>
            have hgs : good I T Q nr np s = true := by rw [HG.out, HD.out, hl]; rfl
            have HGS : Hid (∀ t, (f t).isSome = true → (left t && !decide (t = s)) = false → good I T Q nr np t = true) := good_step hgood.out hgs
            clear hgs hl
            go_wp2_with fail
            go_roundw
            case rel => exact ⟨_, _, HRG3.out, HBEL3.out, HGS⟩
            case measure => rw [HRG3.out.left_eq, HRG.out.left_eq]; exact hlt

/-- ZZTakes: takes handed on. -/
theorem zztakes_any (w : World) (bs bm bp : Nat) (ao : Option Addr) (cap : Nat) (I T : Nat → ByteArray) (Q : Nat → Pat) (nr np : Nat) (f : ByteArray → Option Value) (hnr : nr ≤ 65536) (hnp : np ≤ 65536) (h : Stage w bs bm bp ao cap I T Q nr np f) :
    Calls Trym.prog 7 #[.pointer (some ⟨bs, 0, none⟩), .map (some bp)] w fun e w' => TakesPost f I T Q nr np e ∧ Below w.heap.size w w' := by
  have HS : Hid (Stage w bs bm bp ao cap I T Q nr np f) := h
  clear h
  go_enter Trym.func7, Trym.ntmps7
  go_wp2_with fail
  refine (takes_any w bs bm bp ao cap I T Q nr np f hnr hnp HS.out).mono ?_
  rintro e w' ⟨⟨t, rfl, ht⟩, hb⟩
  have HT : Hid (t = true ↔ ∀ s, (f s).isSome = true → good I T Q nr np s = true) := ht
  clear ht
  go_wp2
  go_ret
  exact ⟨⟨t, rfl, HT.out⟩, hb⟩
end Go.Proofs.Qxb6609442aMods
