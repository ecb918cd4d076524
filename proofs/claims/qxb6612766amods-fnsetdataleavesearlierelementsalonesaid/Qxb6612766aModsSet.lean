import Derived.Test.Qxb6612766aModsEq
import Derived.RegionTactic
import Derived.BigRegion
import Derived.ChangeAlike
import Derived.ArgAppend
import Derived.Maps.AppendAt
namespace Go.Proofs.Qxb6612766aMods
open Go.RowKit
set_option linter.unusedVariables false

theorem Trym.info5 : (Trym.prog.info? 5).map (fun i => (i.zero, i.size, i.bytes)) = some (some (.int .u8 0), 1, 1) := by kernel_rfl

/-- What setData leaves: the object in block bo leads to block G, which holds the n bytes and a comma; of what was there nothing but these two blocks has turned. -/
structure SetTo (w : World) (bo G n : Nat) (Z : Nat → Int) (w' : World) : Prop where
  obj : ∃ f, w'.rowIs bo 41 10 f ∧ f 6 = .slice (some ⟨G, 0, none⟩) n n ∧ f 7 = .slice (some ⟨G, 0, none⟩) (n + 1) (n + 1)
  el : El w' G n Z
  ne : G ≠ bo
  os : w'.os = w.os
  tape : w'.tape = w.tape
  output : w'.output = w.output
  size : w.heap.size ≤ w'.heap.size
  block : ∀ k, k < w.heap.size → k ≠ bo → k ≠ G → w'.heap[k]? = w.heap[k]?

/-- The bytes as cells. -/
def cellsOf (Z : Nat → Int) (n : Nat) : List Value := (List.range n).map fun i => .int .u8 (Z i)

theorem cellsOf_get {Z : Nat → Int} {n j : Nat} (h : j < n) : (cellsOf Z n)[j]? = some (.int .u8 (Z j)) := by simp [cellsOf, h]
theorem cellsOf_len (Z : Nat → Int) (n : Nat) : (cellsOf Z n).length = n := by simp [cellsOf]

theorem ownsRow_cell {w : World} {base e size g n cap : Nat} {xs : List Value} (h : w.ownsRow base e size (.slice (some ⟨g, 0, none⟩) n cap) n xs) {j : Nat} {u : Value} (hj : xs[j]? = some u) : w.cell? ⟨g, j, none⟩ = some u := by
  rcases h.2 with ⟨h0, _⟩ | ⟨g', cap', cur, hv, _, hg, _, _, _, ht⟩
  · cases h0
  · cases hv
    subst ht
    have hj' : cur[j]? = some u := by
      rw [List.getElem?_take] at hj
      split at hj
      · simpa using hj
      · cases hj
    simp [World.cell?, hg, hj']

theorem ownsRow_some {w : World} {base e size n : Nat} {v : Value} {xs : List Value} (h : w.ownsRow base e size v n xs) (hn : 0 < n) : ∃ g cap, v = .slice (some ⟨g, 0, none⟩) n cap ∧ base ≤ g ∧ g < w.heap.size ∧ n ≤ cap := by
  rcases h.2 with ⟨_, h0⟩ | ⟨g, cap, _, rfl, hb, hg, hc, _⟩
  · omega
  · exact ⟨g, cap, rfl, hb, (Array.getElem?_eq_some_iff.1 hg).1, hc⟩

theorem el_of_row {w : World} {base g n cap : Nat} {Z : Nat → Int} (h : w.ownsRow base 5 1 (.slice (some ⟨g, 0, none⟩) (n + 1) cap) (n + 1) (cellsOf Z n ++ [.int .u8 44])) : El w g n Z := by
  refine ⟨fun i hi => ownsRow_cell h ?_, ownsRow_cell h ?_⟩
  · rw [List.getElem?_append_left (by rw [cellsOf_len]; exact hi)]
    exact cellsOf_get hi
  · rw [List.getElem?_append_right (by rw [cellsOf_len]; exact Nat.le_refl _), cellsOf_len, Nat.sub_self]
    rfl

/-- The cells of a struct in block bo behind two stores into its fields. -/
theorem el_setCell {w : World} {G n bo : Nat} {Z : Nat → Int} (h : El w G n Z) (hne : G ≠ bo) (o : Nat) (v : Value) : El (w.setCell ⟨bo, o, none⟩ v) G n Z := by
  have hb : (w.setCell ⟨bo, o, none⟩ v).heap[G]? = w.heap[G]? := Below.heap_setCell _ _ _ _ hne
  exact ⟨fun i hi => (World.cell?_of_block (a := ⟨G, i, none⟩) hb).trans (h.1 i hi), (World.cell?_of_block (a := ⟨G, n, none⟩) hb).trans h.2⟩

/-- The two stores into the object's fields, joined. -/
theorem setTo_mk {w w1 : World} {bo G n : Nat} {Z : Nat → Int} {f : Nat → Value} (hrow : w1.rowIs bo 41 10 f) (hel : El w1 G n Z) (hne : G ≠ bo) (hos : w1.os = w.os) (ht : w1.tape = w.tape) (hout : w1.output = w.output) (hsz : w.heap.size ≤ w1.heap.size)
    (hb : ∀ k, k < w.heap.size → k ≠ bo → k ≠ G → w1.heap[k]? = w.heap[k]?) :
    SetTo w bo G n Z ((w1.setCell ⟨bo, 6, none⟩ (.slice (some ⟨G, 0, none⟩) n n)).setCell ⟨bo, 7, none⟩ (.slice (some ⟨G, 0, none⟩) (n + 1) (n + 1))).drew := by
  refine ⟨⟨_, ((hrow.set 6 _).set 7 _).drew, by simp, by simp⟩, ?_, hne, hos, ht, hout, by simpa [World.setCell] using hsz, fun k hk h1 h2 => ?_⟩
  · exact el_setCell (el_setCell hel hne _ _) hne _ _
  · show ((w1.setCell _ _).setCell _ _).heap[k]? = _
    rw [Below.heap_setCell _ _ _ _ h1, Below.heap_setCell _ _ _ _ h1]
    exact hb k hk h1 h2

set_option maxHeartbeats 1000000 in
/-- setData of a slice without room (nil, empty or not): the bytes are copied into a new block. -/
theorem set_grow (bo : Nat) (ao : Option Addr) (n : Nat) (Z : Nat → Int) (f : Nat → Value) (w : World) (hn : n ≤ 1048576) (hrow : w.rowIs bo 41 10 f) (hnone : ao = none → n = 0) (hZ : ∀ b, ao = some b → ∀ i, i < n → w.cell? (b.add i) = some (.int .u8 (Z i))) :
    Calls Trym.prog 13 #[.pointer (some ⟨bo, 0, none⟩), .slice ao n n] w fun e w' => e = .returned (.tuple #[]) ∧ ∃ G, w.heap.size ≤ G ∧ SetTo w bo G n Z w' := by
  obtain ⟨i0, hi, hz0, hz1, hz2⟩ := info_parts Trym.info5
  have hbo := hrow.lt
  have HROW : Hid (w.rowIs bo 41 10 f) := hrow
  have HN : Hid (ao = none → n = 0) := hnone
  have HZ : Hid (∀ b, ao = some b → ∀ i, i < n → w.cell? (b.add i) = some (.int .u8 (Z i))) := hZ
  clear hrow hnone hZ
  go_enter Trym.func13, Trym.ntmps13
  go_wp2_with (at_builtin; refine wpList_append_grows _ rfl _ _ 22 rfl 5 i0 (.int .u8 0) 1 1 Trym.underlying22 hi hz0 hz1 hz2 rfl (by decide) ao n n (cellsOf Z n) rfl ?hn ?hl ?ho ⟨w.heap.size, 0, none⟩ 1 1 [.int .u8 44] rfl rfl (cell_one_new _ _ _) ?h1 ?hf ?hm ?hb ?_)
  case hn => intro h; have := HN.out h; exact ⟨this, this⟩
  case hl => rw [cellsOf_len]; omega
  case ho =>
    intro b hb j u hu
    have hj : j < n := by have := (List.getElem?_eq_some_iff.1 hu).1; rwa [cellsOf_len] at this
    rw [cellsOf_get hj] at hu
    cases hu
    have hc := HZ.out b hb j hj
    rw [World.cell?_alloc_lt _ _ _ (World.block_lt_of_cell? w _ hc)]
    exact hc
  case h1 => intro u hu; simp at hu; subst hu; rfl
  case hf => omega
  case hm => unfold maxLen; omega
  case hb => omega
  intro v' w1 hown hg
  obtain ⟨G, cap, hv, hG, hGlt, hcap⟩ := ownsRow_some hown (by omega)
  subst hv
  have hrow1 : w1.rowIs bo 41 10 f := by
    refine HROW.out.of_block ?_
    rw [hg.block bo (by simp; omega) (by simp), Below.heap_alloc _ _ _ hbo]
  have c6 := hrow1.cell (i := 6) (by omega)
  have c7 := hrow1.cell (i := 7) (by omega)
  have f6 := hrow1.frozen 6
  have f7 := hrow1.frozen 7
  have HEL : Hid (El w1 G n Z) := el_of_row hown
  have HROW1 : Hid (w1.rowIs bo 41 10 f) := hrow1
  have HG : Hid ((w.alloc (.cells #[.int .u8 44] 5)).grownBy w1 none) := hg
  have hG' : w.heap.size + 1 ≤ G := by simpa using hG
  have hnc : (n : Int) ≤ (cap : Int) := by omega
  have hnc1 : (n : Int) + 1 ≤ (cap : Int) := by omega
  clear hown hg hrow1 hG
  go_wp2
  go_region
  go_end0
  refine ⟨rfl, G, by omega, setTo_mk HROW1.out HEL.out (by omega) HG.out.os HG.out.tape HG.out.output ?_ ?_⟩
  · have := HG.out.size
    simp at this
    omega
  · intro k hk _ _
    rw [HG.out.block k (by simp; omega) (by simp), Below.heap_alloc _ _ _ hk]

set_option maxHeartbeats 1000000 in
/-- setData of a slice with room for just the comma, in a block of its own: the comma goes behind the bytes. -/
theorem set_room (bo g n base : Nat) (Z : Nat → Int) (f : Nat → Value) (w : World) (hn : n ≤ 1048576) (hrow : w.rowIs bo 41 10 f) (hne : g ≠ bo) (hown : w.ownsRow base 5 1 (.slice (some ⟨g, 0, none⟩) n (n + 1)) n (cellsOf Z n)) :
    Calls Trym.prog 13 #[.pointer (some ⟨bo, 0, none⟩), .slice (some ⟨g, 0, none⟩) n (n + 1)] w fun e w' => e = .returned (.tuple #[]) ∧ SetTo w bo g n Z w' := by
  obtain ⟨i0, hi, hz0, hz1, hz2⟩ := info_parts Trym.info5
  have hbo := hrow.lt
  have hglt : g < w.heap.size := by
    rcases hown.2 with ⟨h0, _⟩ | ⟨g', cap', cur, hv, _, hg, _⟩
    · cases h0
    · cases hv
      exact (Array.getElem?_eq_some_iff.1 hg).1
  have HROW : Hid (w.rowIs bo 41 10 f) := hrow
  have HNE : Hid (g ≠ bo) := hne
  clear hrow hne
  go_enter Trym.func13, Trym.ntmps13
  go_wp2_with (at_builtin; refine wpList_append_fits _ rfl _ _ 22 rfl base 5 i0 1 Trym.underlying22 hi hz1 g n (n + 1) (cellsOf Z n) rfl (hown.alloc _) ⟨w.heap.size, 0, none⟩ 1 1 [.int .u8 44] rfl rfl (cell_one_new _ _ _) ?h1 ?hf ?_)
  case h1 => intro u hu; simp at hu; subst hu; rfl
  case hf => omega
  intro w1 hown1 hg
  have hrow1 : w1.rowIs bo 41 10 f := by
    refine HROW.out.of_block ?_
    rw [hg.block bo (by simp; omega) (fun e => HNE.out (Option.some.inj e).symm), Below.heap_alloc _ _ _ hbo]
  have c6 := hrow1.cell (i := 6) (by omega)
  have c7 := hrow1.cell (i := 7) (by omega)
  have f6 := hrow1.frozen 6
  have f7 := hrow1.frozen 7
  have HEL : Hid (El w1 g n Z) := el_of_row hown1
  have HROW1 : Hid (w1.rowIs bo 41 10 f) := hrow1
  have HG : Hid ((w.alloc (.cells #[.int .u8 44] 5)).grownBy w1 (some g)) := hg
  have hnc : (n : Int) ≤ (n : Int) + 1 := by omega
  clear hown hown1 hg hrow1
  go_wp2
  go_region
  go_end0
  refine ⟨rfl, setTo_mk HROW1.out HEL.out HNE.out HG.out.os HG.out.tape HG.out.output ?_ ?_⟩
  · have := HG.out.size
    simp at this
    omega
  · intro k hk _ h2
    rw [HG.out.block k (by simp; omega) (fun e => h2 (Option.some.inj e)), Below.heap_alloc _ _ _ hk]

/-! ### ZZsetData, ZZstoredData, ZZstoredElement: handed on -/
theorem zzset_grow (bo : Nat) (ao : Option Addr) (n : Nat) (Z : Nat → Int) (f : Nat → Value) (w : World) (hn : n ≤ 1048576) (hrow : w.rowIs bo 41 10 f) (hnone : ao = none → n = 0) (hZ : ∀ b, ao = some b → ∀ i, i < n → w.cell? (b.add i) = some (.int .u8 (Z i))) :
    Calls Trym.prog 8 #[.pointer (some ⟨bo, 0, none⟩), .slice ao n n] w fun e w' => e = .returned (.tuple #[]) ∧ ∃ G, w.heap.size ≤ G ∧ SetTo w bo G n Z w' := by
  have HH : Hid (Calls Trym.prog 13 #[.pointer (some ⟨bo, 0, none⟩), .slice ao n n] w fun e w' => e = .returned (.tuple #[]) ∧ ∃ G, w.heap.size ≤ G ∧ SetTo w bo G n Z w') := set_grow bo ao n Z f w hn hrow hnone hZ
  clear hrow hnone hZ
  go_enter Trym.func8, Trym.ntmps8
  go_wp2_with fail
  refine HH.out.mono ?_
  rintro e w' ⟨rfl, G, hG, hS⟩
  go_wp2
  go_end0
  exact ⟨rfl, G, hG, hS⟩

theorem zzset_room (bo g n base : Nat) (Z : Nat → Int) (f : Nat → Value) (w : World) (hn : n ≤ 1048576) (hrow : w.rowIs bo 41 10 f) (hne : g ≠ bo) (hown : w.ownsRow base 5 1 (.slice (some ⟨g, 0, none⟩) n (n + 1)) n (cellsOf Z n)) :
    Calls Trym.prog 8 #[.pointer (some ⟨bo, 0, none⟩), .slice (some ⟨g, 0, none⟩) n (n + 1)] w fun e w' => e = .returned (.tuple #[]) ∧ SetTo w bo g n Z w' := by
  have HH : Hid (Calls Trym.prog 13 #[.pointer (some ⟨bo, 0, none⟩), .slice (some ⟨g, 0, none⟩) n (n + 1)] w fun e w' => e = .returned (.tuple #[]) ∧ SetTo w bo g n Z w') := set_room bo g n base Z f w hn hrow hne hown
  clear hrow hne hown
  go_enter Trym.func8, Trym.ntmps8
  go_wp2_with fail
  refine HH.out.mono ?_
  rintro e w' ⟨rfl, hS⟩
  go_wp2
  go_end0
  exact ⟨rfl, hS⟩

theorem data_any (bo : Nat) (a : Option Addr) (n c : Nat) (w : World) (h : w.cell? ⟨bo, 6, none⟩ = some (.slice a n c)) : Calls Trym.prog 11 #[.pointer (some ⟨bo, 0, none⟩)] w fun e w' => e = .returned (.slice a n c) ∧ w' = w := by
  go_enter Trym.func11, Trym.ntmps11
  go_wp2
  go_ret
  exact ⟨rfl, rfl⟩

theorem element_any (bo : Nat) (a : Option Addr) (n c : Nat) (w : World) (h : w.cell? ⟨bo, 7, none⟩ = some (.slice a n c)) : Calls Trym.prog 9 #[.pointer (some ⟨bo, 0, none⟩)] w fun e w' => e = .returned (.slice a n c) ∧ w' = w := by
  go_enter Trym.func9, Trym.ntmps9
  go_wp2
  go_ret
  exact ⟨rfl, rfl⟩

/-- The cells of a new object. -/
def objCells : Array Value := #[.string ⟨#[]⟩, .string ⟨#[]⟩, .string ⟨#[]⟩, .string ⟨#[]⟩, .string ⟨#[]⟩, .int .u64 0, .slice none 0 0, .slice none 0 0, .slice none 0 0, .pointer none]

theorem newStored_any (w : World) : Calls Trym.prog 7 #[] w fun e w' => e = .returned (.pointer (some ⟨w.heap.size, 0, none⟩)) ∧ w' = w.alloc (.cells objCells 41) := by
  go_enter Trym.func7, Trym.ntmps7
  go_wp2
  go_ret
  exact ⟨rfl, rfl⟩

theorem newObj_row (w : World) : (w.alloc (.cells objCells 41)).rowIs w.heap.size 41 10 (fun i => objCells[i]?.getD undef) :=
  World.rowIs_alloc w objCells 41 _ (fun i hi => by rw [Array.getElem?_eq_getElem hi]; rfl)
end Go.Proofs.Qxb6612766aMods
