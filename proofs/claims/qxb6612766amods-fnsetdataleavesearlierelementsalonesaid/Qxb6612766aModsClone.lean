import Derived.Test.Qxb6612766aModsSet
namespace Go.Proofs.Qxb6612766aMods
open Go.RowKit
set_option linter.unusedVariables false

/-- Some number came back. -/
def IsInt (e : Ending) : Prop := ∃ t : Int, e = .returned (.int .i64 t)

/-- What zzBytes answers: some bool; where it is true both lengths are small. -/
def BytesPost (n m : Nat) (e : Ending) : Prop := ∃ t : Bool, e = .returned (.bool t) ∧ (t = true → n ≤ 1048576 ∧ m ≤ 1048576)

theorem BytesPost.no (n m : Nat) : BytesPost n m (.returned (.bool false)) := ⟨false, rfl, fun h => by cases h⟩

set_option maxHeartbeats 1000000 in
theorem zzbytes_any (a b : Option Addr) (n c m d : Nat) (w : World) : Calls Trym.prog 4 #[.slice a n c, .slice b m d] w fun e w' => BytesPost n m e ∧ w' = w := by
  go_enter Trym.func4, Trym.ntmps4
  go_wp2
  all_goals
    go_ret
    first | exact ⟨⟨true, rfl, fun _ => by omega⟩, rfl⟩ | exact ⟨BytesPost.no _ _, rfl⟩

theorem addLen_any (n k : Int) (w : World) : Calls Trym.prog 5 #[.int .i64 n, .int .i64 k] w fun e w' => IsInt e ∧ w' = w := by
  go_enter Trym.func5, Trym.ntmps5
  go_wp2
  all_goals
    go_ret
    exact ⟨⟨_, rfl⟩, rfl⟩

/-! ### cells in later worlds -/
theorem lt_of_cell {w : World} {b o : Nat} {v : Value} (hc : w.cell? ⟨b, o, none⟩ = some v) : b < w.heap.size := by
  by_cases hb : b < w.heap.size
  · exact hb
  · simp [World.cell?, Array.getElem?_eq_none (show w.heap.size ≤ b by omega)] at hc

theorem below_old {w wr : World} (h : Below w.heap.size w wr) {b o : Nat} {v : Value} (hc : w.cell? ⟨b, o, none⟩ = some v) : wr.cell? ⟨b, o, none⟩ = some v := by
  rw [h.cell (p := ⟨b, o, none⟩) (lt_of_cell hc)]
  exact hc

theorem Row.later {w wr : World} {a : Option Addr} {n : Nat} {Z : Nat → Int} (h : Row w a n Z) (hb : Below w.heap.size w wr) : Row wr a n Z := by
  intro h0
  obtain ⟨b, off, ha, hcs⟩ := h h0
  exact ⟨b, off, ha, fun i hi => below_old hb (hcs i hi)⟩

/-! ### 'make([]byte, n)' and 'make([]byte, n, n+1)' -/
theorem make_bytes (n m : Nat) (hnm : n ≤ m) (hm : m ≤ 1048577) (w : World) :
    (Instr.makeSlice 22 (.int .i64 (n : Int)) (.int .i64 (m : Int))).run Trym.prog w = .ok (.slice (some ⟨w.heap.size, 0, none⟩) n m) (w.alloc (.cells (madeCells #[.int .u8 0] m) 5)) := by
  obtain ⟨i, hi, hz0, hz1, hz2⟩ := info_parts Trym.info5
  have h := run_make (P := Trym.prog) w 22 5 i _ Trym.underlying22 hi hz0 .i64 .i64 n m (by omega) (by omega) (by rw [hz2]; omega) (by omega)
  rw [hz1, Int.toNat_natCast, Int.toNat_natCast, Nat.mul_one] at h
  exact h

/-- THE COPYING LOOP: k bytes are laid in the block of c cells that was made last. -/
structure Copy (w : World) (c : Nat) (Z : Nat → Int) (k : Nat) (wr : World) : Prop where
  below : Below w.heap.size w wr
  size : wr.heap.size = w.heap.size + 1
  row : ∃ f, wr.rowIs w.heap.size 5 c f ∧ ∀ i, i < k → f i = .int .u8 (Z i)

theorem Copy.start (w : World) (c : Nat) (Z : Nat → Int) : Copy w c Z 0 (w.alloc (.cells (madeCells #[.int .u8 0] c) 5)) :=
  ⟨(Below.refl _ _).alloc (Nat.le_refl _) _, by simp, _, World.rowIs_made w (.int .u8 0) c 5, fun i h => absurd h (Nat.not_lt_zero _)⟩

theorem Copy.step {w : World} {c : Nat} {Z : Nat → Int} {k : Nat} {wr : World} (h : Copy w c Z k wr) : Copy w c Z (k + 1) (wr.setCell ⟨w.heap.size, k, none⟩ (.int .u8 (Z k))) := by
  obtain ⟨hb, hs, f, hr, hf⟩ := h
  refine ⟨hb.setCell (p := ⟨w.heap.size, k, none⟩) (Nat.le_refl _) _, by simpa [World.setCell] using hs, _, hr.set k _, fun i hi => ?_⟩
  by_cases e : i = k
  · subst e; simp
  · simp only [e, if_false]
    exact hf i (by omega)

theorem Copy.cell {w : World} {c : Nat} {Z : Nat → Int} {k : Nat} {wr : World} (h : Copy w c Z k wr) (hk : k ≤ c) {i : Nat} (hi : i < k) : wr.cell? ⟨w.heap.size, i, none⟩ = some (.int .u8 (Z i)) := by
  obtain ⟨_, _, f, hr, hf⟩ := h
  rw [hr.cell (by omega), hf i hi]

theorem Copy.owns {w : World} {c n : Nat} {Z : Nat → Int} {wr : World} (h : Copy w c Z n wr) (hn : n ≤ c) (hc : c ≤ maxLen) : wr.ownsRow w.heap.size 5 1 (.slice (some ⟨w.heap.size, 0, none⟩) n c) n (cellsOf Z n) := by
  obtain ⟨_, _, f, ⟨cur, hb, hs, hcur⟩, hf⟩ := h
  refine ⟨by rw [cellsOf_len, Nat.mul_one], .inr ⟨w.heap.size, c, cur, rfl, Nat.le_refl _, hb, hn, hc, by omega, ?_⟩⟩
  rw [Nat.mul_one]
  apply List.ext_getElem?
  intro j
  by_cases hj : j < n
  · rw [List.getElem?_take, if_pos hj, cellsOf_get hj, Array.getElem?_toList, hcur j (by omega), hf j hj]
  · rw [List.getElem?_take, if_neg hj, List.getElem?_eq_none (by rw [cellsOf_len]; omega)]

/-- What zzCloneBytes answers: nil, or a slice of the same bytes in the block that was made last. -/
def ClonePost (w : World) (m : Nat) (Z : Nat → Int) (e : Ending) (w' : World) : Prop :=
  ∃ ao, e = .returned (.slice ao m m) ∧ (ao = none → m = 0) ∧ ∀ x, ao = some x → x = ⟨w.heap.size, 0, none⟩ ∧ ∀ i, i < m → w'.cell? ⟨w.heap.size, i, none⟩ = some (.int .u8 (Z i))

set_option maxHeartbeats 1000000 in
theorem clone_any (a : Option Addr) (m c : Nat) (Z : Nat → Int) (w : World) (hm : m ≤ 1048576) (hnil : a = none → m = 0) (hR : Row w a m Z) :
    Calls Trym.prog 6 #[.slice a m c] w fun e w' => ClonePost w m Z e w' ∧ Below w.heap.size w w' := by
  have H : Hid (Row w a m Z) := hR
  have HN : Hid (a = none → m = 0) := hnil
  clear hR hnil
  have hmk := make_bytes m m (Nat.le_refl _) (by omega)
  have heq := fun w => Lib.run_eql_slice_nil (P := Trym.prog) w 22 5 a m c 0 0 Trym.underlying22
  cases ha : a with
  | none =>
    have hm0 := HN.out ha
    rw [ha] at heq
    simp only [Option.isNone_none] at heq
    subst hm0
    clear ha
    go_enter Trym.func6, Trym.ntmps6
    go_wp2
    go_ret
    exact ⟨⟨none, rfl, fun _ => rfl, fun x hx => by cases hx⟩, Below.refl _ _⟩
  | some x =>
    subst ha
    simp only [Option.isNone_some] at heq
    go_enter Trym.func6, Trym.ntmps6
    go_wp2
    go_loopw [4] (fun i wr => ∃ k : Nat, k ≤ m ∧ i = .int .i64 k ∧ Copy w m Z k wr) (fun i _ => m - (intOf i).toNat)
    case atStart => exact ⟨0, Nat.zero_le _, rfl, Copy.start w m Z⟩
    case round =>
      obtain ⟨k, hk, rfl, hc⟩ := hrel
      by_cases hlt : k < m
      · obtain ⟨b, off, hx, hcs⟩ := H.out (by omega)
        have hxx : x = ⟨b, off, none⟩ := Option.some.inj hx
        have x1 := below_old hc.below (hcs k hlt)
        obtain ⟨f, hr, _⟩ := hc.row
        have x2 := hr.cell hlt
        have x3 := hr.frozen k
        clear hcs hr hx
        subst hxx
        go_wp2
        go_roundw
        case rel => exact ⟨k + 1, by omega, by go_num, hc.step⟩
        case measure => simp [intOf]; omega
      · obtain rfl : m = k := by omega
        go_wp2
        go_ret
        exact ⟨⟨_, rfl, fun h => (by cases h), fun y hy => ⟨(Option.some.inj hy).symm, fun i hi => hc.cell (Nat.le_refl _) hi⟩⟩, hc.below⟩
end Go.Proofs.Qxb6612766aMods
