import Derived.Test.Qxb6612766aModsClone
namespace Go.Proofs.Qxb6612766aMods
open Go.RowKit
set_option linter.unusedVariables false

/-- The object in block bo leads to block G, which holds the n bytes and a comma. -/
structure Obj1 (wr : World) (bo G n : Nat) (Z : Nat → Int) : Prop where
  row : ∃ f, wr.rowIs bo 41 10 f
  c6 : wr.cell? ⟨bo, 6, none⟩ = some (.slice (some ⟨G, 0, none⟩) n n)
  c7 : wr.cell? ⟨bo, 7, none⟩ = some (.slice (some ⟨G, 0, none⟩) (n + 1) (n + 1))
  el : El wr G n Z

theorem SetTo.obj1 {w : World} {bo G n : Nat} {Z : Nat → Int} {w' : World} (h : SetTo w bo G n Z w') : Obj1 w' bo G n Z := by
  obtain ⟨f, hr, h6, h7⟩ := h.obj
  exact ⟨⟨f, hr⟩, by rw [hr.cell (by omega), h6], by rw [hr.cell (by omega), h7], h.el⟩

theorem Obj1.drewN {wr : World} {bo G n : Nat} {Z : Nat → Int} (h : Obj1 wr bo G n Z) (k : Nat) : Obj1 (wr.drewN k) bo G n Z := ⟨h.row, h.c6, h.c7, h.el⟩

theorem Obj1.grown {wr w' : World} {bo G n : Nat} {Z : Nat → Int} (h : Obj1 wr bo G n Z) (hg : wr.grownBy w' none) : Obj1 w' bo G n Z := by
  obtain ⟨f, hr⟩ := h.row
  exact ⟨⟨f, hr.of_block (hg.block _ hr.lt (by simp))⟩, hg.cell h.c6 (by simp), hg.cell h.c7 (by simp), fun i hi => hg.cell (h.el.1 i hi) (by simp), hg.cell h.el.2 (by simp)⟩

/-- Its data as a row. -/
theorem Obj1.data {wr : World} {bo G n : Nat} {Z : Nat → Int} (h : Obj1 wr bo G n Z) : Row wr (some ⟨G, 0, none⟩) n Z := fun _ => ⟨G, 0, rfl, fun i hi => by rw [Nat.zero_add]; exact h.el.1 i hi⟩

/-- What is there besides: old memory as it was; the first element; the copy of b. -/
structure Rest (w : World) (g n : Nat) (Z : Nat → Int) (y : Option Addr) (c m : Nat) (Y : Nat → Int) (wr : World) : Prop where
  below : Below w.heap.size w wr
  el : El wr g n Z
  copy : ∀ x, y = some x → x = ⟨c, 0, none⟩ ∧ ∀ i, i < m → wr.cell? ⟨c, i, none⟩ = some (.int .u8 (Y i))

theorem Rest.drewN {w : World} {g n : Nat} {Z : Nat → Int} {y : Option Addr} {c m : Nat} {Y : Nat → Int} {wr : World} (h : Rest w g n Z y c m Y wr) (k : Nat) : Rest w g n Z y c m Y (wr.drewN k) :=
  ⟨⟨h.below.os, h.below.tape, h.below.output, h.below.size, h.below.block⟩, h.el, h.copy⟩

theorem Rest.grown {w : World} {g n : Nat} {Z : Nat → Int} {y : Option Addr} {c m : Nat} {Y : Nat → Int} {wr w' : World} (h : Rest w g n Z y c m Y wr) (hg : wr.grownBy w' none) : Rest w g n Z y c m Y w' :=
  ⟨h.below.grown hg h.below.size (fun j hj => by cases hj), ⟨fun i hi => hg.cell (h.el.1 i hi) (by simp), hg.cell h.el.2 (by simp)⟩, fun x hx => ⟨(h.copy x hx).1, fun i hi => hg.cell ((h.copy x hx).2 i hi) (by simp)⟩⟩

theorem Rest.quiet {w : World} {g n : Nat} {Z : Nat → Int} {y : Option Addr} {c m : Nat} {Y : Nat → Int} {wr w' : World} (h : Rest w g n Z y c m Y wr) (hw : ∃ k, w' = wr.drewN k) : Rest w g n Z y c m Y w' := by
  obtain ⟨k, rfl⟩ := hw
  exact h.drewN k
theorem Obj1.quiet {wr w' : World} {bo G n : Nat} {Z : Nat → Int} (h : Obj1 wr bo G n Z) (hw : ∃ k, w' = wr.drewN k) : Obj1 w' bo G n Z := by
  obtain ⟨k, rfl⟩ := hw
  exact h.drewN k

/-- Behind a setData that lays a new block. -/
theorem Rest.set {w : World} {g n : Nat} {Z : Nat → Int} {y : Option Addr} {c m : Nat} {Y : Nat → Int} {wr w' : World} {bo G k : Nat} {V : Nat → Int} (h : Rest w g n Z y c m Y wr) (hs : SetTo wr bo G k V w') (hG : wr.heap.size ≤ G) (hgb : g ≠ bo) (hcb : 0 < m → c ≠ bo) (hob : w.heap.size ≤ bo) : Rest w g n Z y c m Y w' := by
  have keep : ∀ {b o : Nat} {v : Value}, b ≠ bo → wr.cell? ⟨b, o, none⟩ = some v → w'.cell? ⟨b, o, none⟩ = some v := by
    intro b o v hb hc
    have hlt := lt_of_cell hc
    exact (World.cell?_of_block (a := ⟨b, o, none⟩) (hs.block b hlt hb (by omega))).trans hc
  have hsz := h.below.size
  refine ⟨⟨hs.os.trans h.below.os, hs.tape.trans h.below.tape, hs.output.trans h.below.output, Nat.le_trans h.below.size hs.size, fun j hj => ?_⟩, ⟨fun i hi => keep hgb (h.el.1 i hi), keep hgb h.el.2⟩, fun x hx => ⟨(h.copy x hx).1, fun i hi => keep (hcb (by omega)) ((h.copy x hx).2 i hi)⟩⟩
  rw [hs.block j (by omega) (by omega) (by omega)]
  exact h.below.block j hj

theorem grown_of_below {w w' : World} (h : Below w.heap.size w w') : w.grownBy w' none := ⟨h.os, h.tape, h.output, h.size, fun k hk _ => h.block k hk⟩

/-- Behind the first setData: all that stands. wr: the copy of a is laid (block w.heap.size); w3: the copy of b too (block wr.heap.size, if any); the object is block w3.heap.size. -/
theorem rest_start {w wr w3 w5 : World} {n m : Nat} {Z Y : Nat → Int} {y : Option Addr} (hc : Copy w (n + 1) Z n wr) (hb3 : Below wr.heap.size wr w3) (hy : y = none → m = 0)
    (hcp : ∀ x, y = some x → x = ⟨wr.heap.size, 0, none⟩ ∧ ∀ i, i < m → w3.cell? ⟨wr.heap.size, i, none⟩ = some (.int .u8 (Y i)))
    (hs : SetTo (w3.alloc (.cells objCells 41)) w3.heap.size w.heap.size n Z w5) :
    Rest w w.heap.size n Z y wr.heap.size m Y w5 ∧ (0 < m → wr.heap.size ≠ w3.heap.size) ∧ w.heap.size ≠ w3.heap.size ∧ w.heap.size ≤ w3.heap.size := by
  have h1 := hc.size
  have h2 := hb3.size
  refine ⟨⟨⟨?_, ?_, ?_, ?_, fun j hj => ?_⟩, hs.el, fun x hx => ⟨(hcp x hx).1, fun i hi => ?_⟩⟩, fun h0 => ?_, by omega, by omega⟩
  · exact hs.os.trans (hb3.os.trans hc.below.os)
  · exact hs.tape.trans (hb3.tape.trans hc.below.tape)
  · exact hs.output.trans (hb3.output.trans hc.below.output)
  · have := hs.size
    simp at this
    omega
  · rw [hs.block j (by simp; omega) (by omega) (by omega), Below.heap_alloc _ _ _ (by omega), hb3.block j (by omega)]
    exact hc.below.block j hj
  · have hcell := (hcp x hx).2 i hi
    have hlt := lt_of_cell hcell
    have hb : w5.heap[wr.heap.size]? = w3.heap[wr.heap.size]? := by
      rw [hs.block _ (by simp; omega) (by omega) (by omega), Below.heap_alloc _ _ _ hlt]
    exact (World.cell?_of_block (a := ⟨wr.heap.size, i, none⟩) hb).trans hcell
  · cases hyy : y with
    | none => have := hy hyy; omega
    | some x =>
      have := lt_of_cell ((hcp x hyy).2 0 h0)
      omega

theorem add_head (g i : Nat) : (⟨g, 0, none⟩ : Addr).add i = ⟨g, i, none⟩ := by rw [Addr.add_lit, Nat.zero_add]

set_option maxHeartbeats 4000000 in
set_option maxRecDepth 100000 in
theorem law_walk (a : Option Addr) (n ca : Nat) (Z : Nat → Int) (b : Option Addr) (m cb : Nat) (Y : Nat → Int) (w : World) (hbn : b = none → m = 0) (hA : Row w a n Z) (hB : Row w b m Y) :
    Calls Trym.prog 3 #[.slice a n ca, .slice b m cb] w fun e w' => e = .returned (.bool true) ∧ Below w.heap.size w w' := by
  have HA : Hid (Row w a n Z) := hA
  have HB : Hid (Row w b m Y) := hB
  have HBN : Hid (b = none → m = 0) := hbn
  clear hA hB hbn
  go_enter Trym.func3, Trym.ntmps3
  go_wp2_with fail
  refine (zzbytes_any a b n ca m cb w).mono ?_
  rintro e w' ⟨⟨t, rfl, hsz⟩, hw'⟩
  subst hw'
  cases t
  · go_wp2_with fail
    go_ret
    exact ⟨rfl, Below.refl _ _⟩
  obtain ⟨hn, hm⟩ := hsz rfl
  clear hsz
  go_wp2_with fail
  refine (addLen_any _ _ _).mono ?_
  rintro e w1 ⟨⟨t1, rfl⟩, hw1⟩
  subst hw1
  go_wp2_with fail
  refine (addLen_any _ _ _).mono ?_
  rintro e w2 ⟨⟨t2, rfl⟩, hw2⟩
  subst hw2
  have hmk : ∀ w, (Instr.makeSlice 22 (.int .i64 (n : Int)) (.int .i64 ((n : Int) + 1))).run Trym.prog w = .ok (.slice (some ⟨w.heap.size, 0, none⟩) n (n + 1)) (w.alloc (.cells (madeCells #[.int .u8 0] (n + 1)) 5)) := by
    intro w
    have := make_bytes n (n + 1) (by omega) (by omega) w
    rwa [show ((n + 1 : Nat) : Int) = (n : Int) + 1 by omega] at this
  go_wp2_with fail
  · go_ret
    exact ⟨rfl, Below.refl _ _⟩
  go_loopw [7] (fun i wr => ∃ k : Nat, k ≤ n ∧ i = .int .i64 k ∧ Copy w2 (n + 1) Z k wr) (fun i _ => n - (intOf i).toNat)
  case atStart => exact ⟨0, Nat.zero_le _, rfl, Copy.start w2 (n + 1) Z⟩
  case round =>
    obtain ⟨k, hk, rfl, hc⟩ := hrel
    clear hmk
    by_cases hlt : k < n
    · obtain ⟨x, off, hx, hcs⟩ := HA.out (by omega)
      have x1 := below_old hc.below (hcs k hlt)
      obtain ⟨f, hr, _⟩ := hc.row
      have x2 := hr.cell (i := k) (by omega)
      have x3 := hr.frozen k
      clear hcs hr
      subst hx
      have hkn : (k : Int) < (n : Int) := by omega
      go_wp2_with fail
      go_roundw
      case rel => exact ⟨k + 1, by omega, by go_num, hc.step⟩
      case measure => simp [intOf]; omega
    · obtain rfl : n = k := by omega
      have hown := hc.owns (by omega) (by unfold maxLen; omega)
      -- the copy of b, the object
      go_wp2_with fail
      refine (clone_any b m cb Y wr hm HBN.out (HB.out.later hc.below)).mono ?_
      rintro e w3 ⟨⟨y, rfl, hy, hcp⟩, hb3⟩
      go_wp2_with fail
      refine (newStored_any w3).mono ?_
      rintro e w4 ⟨rfl, hw4⟩
      subst hw4
      have hsz1 := hc.size
      have hsz2 := hb3.size
      -- setData of the copy of a: the comma goes behind it
      go_wp2_with fail
      refine (zzset_room w3.heap.size w2.heap.size n w2.heap.size Z _ _ hn (newObj_row w3) (by omega) (((hown.kept (grown_of_below hb3) (.inr (by simp [Value.ownBlock])))).alloc _)).mono ?_
      rintro e w5 ⟨rfl, hs5⟩
      obtain ⟨hR5, hcb, hgb, hob⟩ := rest_start hc hb3 hy hcp hs5
      have HO5 := hs5.obj1
      have HCOPY : Hid (y = none → m = 0) := hy
      clear hs5 hown hb3 hc hcp hy hsz1 hsz2
      have HR5 : Hid (Rest w2 w2.heap.size n Z y wr.heap.size m Y w5) := hR5
      have HO5' : Hid (Obj1 w5 w3.heap.size w2.heap.size n Z) := HO5
      have HCB : Hid (0 < m → wr.heap.size ≠ w3.heap.size) := hcb
      have HGB : Hid (w2.heap.size ≠ w3.heap.size) := hgb
      clear hR5 HO5 hcb hgb
      go_wp2_with fail
      refine (element_any w3.heap.size _ _ _ w5 HO5'.out.c7).mono ?_
      rintro e v1 ⟨rfl, hv1⟩
      subst hv1
      go_wp2_with fail
      refine (data_any w3.heap.size _ _ _ v1 HO5'.out.c6).mono ?_
      rintro e v2 ⟨rfl, hv2⟩
      subst hv2
      go_wp2_with fail
      refine (eq_true _ a n n ca Z v2 hn HO5'.out.data (HA.out.later HR5.out.below)).mono ?_
      rintro e v3 ⟨rfl, hk3⟩
      have HR6 : Hid (Rest w2 w2.heap.size n Z y wr.heap.size m Y v3) := HR5.out.quiet hk3
      have HO6 : Hid (Obj1 v3 w3.heap.size w2.heap.size n Z) := HO5'.out.quiet hk3
      clear hk3 HR5 HO5'
      go_wp2_with fail
      refine (el_true w2.heap.size a n (n + 1) ca Z v3 hn HR6.out.el (HA.out.later HR6.out.below)).mono ?_
      rintro e v4 ⟨rfl, hk4⟩
      have HR7 : Hid (Rest w2 w2.heap.size n Z y wr.heap.size m Y v4) := HR6.out.quiet hk4
      have HO7 : Hid (Obj1 v4 w3.heap.size w2.heap.size n Z) := HO6.out.quiet hk4
      clear hk4 HR6 HO6
      -- setData of the data it holds: a new block
      go_wp2_with fail
      refine (data_any w3.heap.size _ _ _ v4 HO7.out.c6).mono ?_
      rintro e v5 ⟨rfl, hv5⟩
      subst hv5
      obtain ⟨f7, hrow7⟩ := HO7.out.row
      go_wp2_with fail
      refine (zzset_grow w3.heap.size (some ⟨w2.heap.size, 0, none⟩) n Z f7 v5 hn hrow7 (fun h => by cases h) (fun x hx i hi => by cases hx; rw [add_head]; exact HO7.out.el.1 i hi)).mono ?_
      rintro e v6 ⟨rfl, G2, hG2, hs6⟩
      have HR8 : Hid (Rest w2 w2.heap.size n Z y wr.heap.size m Y v6) := HR7.out.set hs6 hG2 HGB.out HCB.out hob
      have HO8 : Hid (Obj1 v6 w3.heap.size G2 n Z) := hs6.obj1
      clear hs6 hrow7 hG2 HR7 HO7
      go_wp2_with fail
      refine (data_any w3.heap.size _ _ _ v6 HO8.out.c6).mono ?_
      rintro e v7 ⟨rfl, hv7⟩
      subst hv7
      go_wp2_with fail
      refine (eq_true _ a n n ca Z v7 hn HO8.out.data (HA.out.later HR8.out.below)).mono ?_
      rintro e v8 ⟨rfl, hk8⟩
      have HR9 : Hid (Rest w2 w2.heap.size n Z y wr.heap.size m Y v8) := HR8.out.quiet hk8
      have HO9 : Hid (Obj1 v8 w3.heap.size G2 n Z) := HO8.out.quiet hk8
      clear hk8 HR8 HO8
      go_wp2_with fail
      refine (element_any w3.heap.size _ _ _ v8 HO9.out.c7).mono ?_
      rintro e v9 ⟨rfl, hv9⟩
      subst hv9
      go_wp2_with fail
      refine (el_true G2 a n (n + 1) ca Z v9 hn HO9.out.el (HA.out.later HR9.out.below)).mono ?_
      rintro e v10 ⟨rfl, hk10⟩
      have HR10 : Hid (Rest w2 w2.heap.size n Z y wr.heap.size m Y v10) := HR9.out.quiet hk10
      have HO10 : Hid (Obj1 v10 w3.heap.size G2 n Z) := HO9.out.quiet hk10
      clear hk10 HR9 HO9
      -- an append to its data: a new block
      go_wp2_with fail
      refine (data_any w3.heap.size _ _ _ v10 HO10.out.c6).mono ?_
      rintro e v11 ⟨rfl, hv11⟩
      subst hv11
      obtain ⟨i0, hi, hz0, hz1, hz2⟩ := info_parts Trym.info5
      go_wp2_with (at_builtin; refine wpList_append_grows _ rfl _ _ 22 rfl 5 i0 (.int .u8 0) 1 1 Trym.underlying22 hi hz0 hz1 hz2 rfl (by decide) (some ⟨G2, 0, none⟩) n n (cellsOf Z n) rfl ?hn ?hl ?ho ⟨v11.heap.size, 0, none⟩ 1 1 [.int .u8 33] rfl rfl (cell_one_new _ _ _) ?h1 ?hf ?hm ?hb ?_)
      case hn => intro h; cases h
      case hl => rw [cellsOf_len]; omega
      case ho =>
        intro x hx j u hu
        cases hx
        have hj : j < n := by have := (List.getElem?_eq_some_iff.1 hu).1; rwa [cellsOf_len] at this
        rw [cellsOf_get hj] at hu
        cases hu
        rw [add_head]
        have hcl := HO10.out.el.1 j hj
        rw [World.cell?_alloc_lt _ _ _ (World.block_lt_of_cell? v11 _ hcl)]
        exact hcl
      case h1 => intro u hu; simp at hu; subst hu; rfl
      case hf => omega
      case hm => unfold maxLen; omega
      case hb => omega
      intro v' v12 hown12 hg12
      obtain ⟨G3, cap3, hv', hG3, hG3lt, hcap3⟩ := ownsRow_some hown12 (by omega)
      subst hv'
      have x33 : v12.cell? ⟨G3, n, none⟩ = some (.int .u8 33) := ownsRow_cell hown12 (by
        rw [List.getElem?_append_right (by rw [cellsOf_len]; exact Nat.le_refl _), cellsOf_len, Nat.sub_self]
        rfl)
      have hgall := (World.grownBy_alloc v11 (.cells #[.int .u8 33] 5) none).trans hg12
      have HR12 : Hid (Rest w2 w2.heap.size n Z y wr.heap.size m Y v12) := HR10.out.grown hgall
      have HO12 : Hid (Obj1 v12 w3.heap.size G2 n Z) := HO10.out.grown hgall
      have hnn : (n : Int) < (n : Int) + 1 := by omega
      clear hown12 hg12 hgall HR10 HO10 hG3 hG3lt hcap3 hi hz0 hz1 hz2
      go_wp2_with fail
      refine (element_any w3.heap.size _ _ _ v12 HO12.out.c7).mono ?_
      rintro e v13 ⟨rfl, hv13⟩
      subst hv13
      clear x33
      go_wp2_with fail
      refine (el_true G2 a n (n + 1) ca Z v13 hn HO12.out.el (HA.out.later HR12.out.below)).mono ?_
      rintro e v14 ⟨rfl, hk14⟩
      have HR14 : Hid (Rest w2 w2.heap.size n Z y wr.heap.size m Y v14) := HR12.out.quiet hk14
      have HO14 : Hid (Obj1 v14 w3.heap.size G2 n Z) := HO12.out.quiet hk14
      clear hk14 HR12 HO12
      -- setData of the copy of b: a new block
      obtain ⟨f14, hrow14⟩ := HO14.out.row
      go_wp2_with fail
      refine (zzset_grow w3.heap.size y m Y f14 v14 hm hrow14 HCOPY.out (fun x hx i hi => by obtain ⟨e1, e2⟩ := HR14.out.copy x hx; rw [e1, add_head]; exact e2 i hi)).mono ?_
      rintro e v15 ⟨rfl, G4, hG4, hs15⟩
      have HR15 : Hid (Rest w2 w2.heap.size n Z y wr.heap.size m Y v15) := HR14.out.set hs15 hG4 HGB.out HCB.out hob
      have HO15 : Hid (Obj1 v15 w3.heap.size G4 m Y) := hs15.obj1
      clear hs15 hrow14 hG4 HR14 HO14
      go_wp2_with fail
      refine (data_any w3.heap.size _ _ _ v15 HO15.out.c6).mono ?_
      rintro e v16 ⟨rfl, hv16⟩
      subst hv16
      go_wp2_with fail
      refine (eq_true _ b m m cb Y v16 hm HO15.out.data (HB.out.later HR15.out.below)).mono ?_
      rintro e v17 ⟨rfl, hk17⟩
      have HR17 : Hid (Rest w2 w2.heap.size n Z y wr.heap.size m Y v17) := HR15.out.quiet hk17
      have HO17 : Hid (Obj1 v17 w3.heap.size G4 m Y) := HO15.out.quiet hk17
      clear hk17 HR15 HO15
      go_wp2_with fail
      refine (element_any w3.heap.size _ _ _ v17 HO17.out.c7).mono ?_
      rintro e v18 ⟨rfl, hv18⟩
      subst hv18
      go_wp2_with fail
      refine (el_true G4 b m (m + 1) cb Y v18 hm HO17.out.el (HB.out.later HR17.out.below)).mono ?_
      rintro e v19 ⟨rfl, hk19⟩
      have HR19 : Hid (Rest w2 w2.heap.size n Z y wr.heap.size m Y v19) := HR17.out.quiet hk19
      clear hk19 HR17 HO17
      -- the first element still reads a and a comma
      go_wp2_with fail
      refine (el_true w2.heap.size a n (n + 1) ca Z v19 hn HR19.out.el (HA.out.later HR19.out.below)).mono ?_
      rintro e v20 ⟨rfl, hk20⟩
      have HR20 : Hid (Rest w2 w2.heap.size n Z y wr.heap.size m Y v20) := HR19.out.quiet hk20
      clear hk20 HR19
      go_wp2_with fail
      go_ret
      exact ⟨rfl, HR20.out.below⟩
end Go.Proofs.Qxb6612766aMods
