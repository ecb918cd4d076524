import Derived.Test.Qxb6001213aModsSizes
import Derived.Deep.OwnRows
namespace Go.Proofs.Qxb6001213aMods
open Go.RowKit
set_option linter.unusedVariables false

/-- A slice of integers that came in: where it has an element its cells lie in a row. -/
def IntRow (q : IntKind) (w : World) (a : Option Addr) (len : Nat) (Z : Nat → Int) : Prop :=
  0 < len → ∃ b off, a = some ⟨b, off, none⟩ ∧ ∀ i, i < len → w.cell? ⟨b, off + i, none⟩ = some (.int q (Z i))

theorem Trym.info33 : (Trym.prog.info? 33).map (fun i => (i.zero, i.size, i.bytes)) = some (some (.agg #[.string ByteArray.empty, .int .u64 0, .int .i64 0]), 3, 32) := by kernel_rfl

/-- A zero entry's three cells. -/
def zeroEntry : Array Value := #[.string ByteArray.empty, .int .u64 0, .int .i64 0]

theorem make_entries (n : Nat) (hn : n ≤ 65536) (w : World) :
    (Instr.makeSlice 27 (.int .i64 (n : Int)) (.int .i64 (n : Int))).run Trym.prog w = .ok (.slice (some ⟨w.heap.size, 0, none⟩) n n) (w.alloc (.cells (madeCells zeroEntry (n * 3)) 33)) := by
  obtain ⟨i, hi, hz0, hz1, hz2⟩ := info_parts Trym.info33
  have h := run_make (P := Trym.prog) w 27 33 i _ Trym.underlying27 hi hz0 .i64 .i64 n n (by omega) (Int.le_refl _) (by rw [hz2]; omega) (by omega)
  rw [hz1, Int.toNat_natCast] at h
  rw [h]
  rfl

/-- THE LOOP's RELATION: k entries are laid in the new block. -/
structure Ent (w : World) (len k : Nat) (S : Nat → ByteArray) (wr : World) : Prop where
  below : Below w.heap.size w wr
  block : ∃ f, wr.rowIs w.heap.size 33 (len * 3) f ∧ ∀ i, i < k → f (i * 3) = .string (S i)

theorem Ent.start (w : World) (len : Nat) (S : Nat → ByteArray) : Ent w len 0 S (w.alloc (.cells (madeCells zeroEntry (len * 3)) 33)) := by
  refine ⟨(Below.refl _ _).alloc (Nat.le_refl _) _, fun i => (madeCells zeroEntry (len * 3))[i]?.getD undef, ?_, fun i h => by omega⟩
  have h := World.rowIs_alloc w (madeCells zeroEntry (len * 3)) 33 (fun i => (madeCells zeroEntry (len * 3))[i]?.getD undef) (fun i hi => by rw [Array.getElem?_eq_getElem hi]; rfl)
  rwa [size_madeCells] at h

theorem Ent.cells {w : World} {len k : Nat} {S : Nat → ByteArray} {wr : World} (h : Ent w len k S wr) : ∀ j, j < len * 3 → ∃ v, wr.cell? ⟨w.heap.size, j, none⟩ = some v ∧ wr.frozen? ⟨w.heap.size, j, none⟩ = false := by
  obtain ⟨_, f, hr, _⟩ := h
  exact fun j hj => ⟨f j, hr.cell hj, hr.frozen j⟩

theorem Ent.step {w : World} {len k : Nat} {S : Nat → ByteArray} {wr : World} (h : Ent w len k S wr) (u1 u2 : Value) :
    Ent w len (k + 1) S (((wr.setCell ⟨w.heap.size, k * 3, none⟩ (.string (S k))).setCell ⟨w.heap.size, k * 3 + 1, none⟩ u1).setCell ⟨w.heap.size, k * 3 + 2, none⟩ u2) := by
  obtain ⟨hb, f, hr, hf⟩ := h
  refine ⟨((hb.setCell (p := ⟨w.heap.size, k * 3, none⟩) (Nat.le_refl _) _).setCell (p := ⟨w.heap.size, k * 3 + 1, none⟩) (Nat.le_refl _) _).setCell (p := ⟨w.heap.size, k * 3 + 2, none⟩) (Nat.le_refl _) _, _, ((hr.set _ _).set _ _).set _ _, ?_⟩
  intro i hi
  have e1 : ¬ i * 3 = k * 3 + 2 := by omega
  have e2 : ¬ i * 3 = k * 3 + 1 := by omega
  simp only [e1, e2, if_false]
  by_cases e : i = k
  · subst e
    simp
  · have e3 : ¬ i * 3 = k * 3 := by omega
    simp only [e3, if_false]
    exact hf i (by omega)

/-- An old cell reads as it did. -/
theorem Ent.old {w : World} {len k : Nat} {S : Nat → ByteArray} {wr : World} (h : Ent w len k S wr) {b o : Nat} {v : Value} (hc : w.cell? ⟨b, o, none⟩ = some v) : wr.cell? ⟨b, o, none⟩ = some v := by
  have hb : b < w.heap.size := by
    by_cases hb : b < w.heap.size
    · exact hb
    · simp [World.cell?, Array.getElem?_eq_none (show w.heap.size ≤ b by omega)] at hc
  rw [h.below.cell (p := ⟨b, o, none⟩) hb]
  exact hc

set_option maxHeartbeats 1000000 in
theorem entries_any (a : Option Addr) (len cap : Nat) (S : Nat → ByteArray) (a1 a2 : Option Addr) (l1 c1 l2 c2 : Nat) (Z1 Z2 : Nat → Int) (w : World) (hl : len ≤ 65536) (hl1 : l1 ≤ 65536) (hl2 : l2 ≤ 65536)
    (hc : StrRow w a len S) (h1 : IntRow .u64 w a1 l1 Z1) (h2 : IntRow .i64 w a2 l2 Z2) :
    Calls Trym.prog 6 #[.slice a len cap, .slice a1 l1 c1, .slice a2 l2 c2] w fun e w' => e = .returned (.slice (some ⟨w.heap.size, 0, none⟩) len len) ∧ Ent w len len S w' := by
  have H : Hid (StrRow w a len S) := hc
  have H1 : Hid (IntRow .u64 w a1 l1 Z1) := h1
  have H2 : Hid (IntRow .i64 w a2 l2 Z2) := h2
  clear hc h1 h2
  have hmk := make_entries len hl
  go_enter Trym.func6, Trym.ntmps6
  go_wp2
  go_loopw [8] (fun i wr => ∃ k : Nat, k ≤ len ∧ i = .int .i64 k ∧ Ent w len k S wr) (fun i _ => len - (intOf i).toNat)
  case atStart => exact ⟨0, Nat.zero_le _, rfl, Ent.start w len S⟩
  case round =>
    obtain ⟨k, hk, rfl, he⟩ := hrel
    by_cases hlt : k < len
    · obtain ⟨b, off, ha, hcs⟩ := H.out (by omega)
      have cs := he.old (hcs k hlt).1
      clear hcs
      subst ha
      obtain ⟨v0, x0, f0⟩ := he.cells (k * 3) (by omega)
      obtain ⟨v1, x1, f1⟩ := he.cells (k * 3 + 1) (by omega)
      obtain ⟨v2, x2, f2⟩ := he.cells (k * 3 + 2) (by omega)
      by_cases g1 : k < l1
      · obtain ⟨b1, o1, ha1, hc1⟩ := H1.out (by omega)
        have y1 := he.old (hc1 k g1)
        clear hc1
        subst ha1
        by_cases g2 : k < l2
        · obtain ⟨b2, o2, ha2, hc2⟩ := H2.out (by omega)
          have y2 := he.old (hc2 k g2)
          clear hc2
          subst ha2
          go_wp2
          go_roundw
          case rel => exact ⟨k + 1, by omega, by go_num, he.step _ _⟩
          case measure => simp [intOf]; omega
        · go_wp2
          go_roundw
          case rel => exact ⟨k + 1, by omega, by go_num, he.step _ _⟩
          case measure => simp [intOf]; omega
      · by_cases g2 : k < l2
        · obtain ⟨b2, o2, ha2, hc2⟩ := H2.out (by omega)
          have y2 := he.old (hc2 k g2)
          clear hc2
          subst ha2
          go_wp2
          go_roundw
          case rel => exact ⟨k + 1, by omega, by go_num, he.step _ _⟩
          case measure => simp [intOf]; omega
        · go_wp2
          go_roundw
          case rel => exact ⟨k + 1, by omega, by go_num, he.step _ _⟩
          case measure => simp [intOf]; omega
    · have hkl : k = len := by omega
      subst hkl
      go_wp2
      go_ret
      exact ⟨rfl, he⟩
end Go.Proofs.Qxb6001213aMods
