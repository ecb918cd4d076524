import Derived.Test.Qxb6612766aModsProg
import Derived.WalkKit
import Derived.Outline
import Derived.WalkSpells
import Derived.WalkLawsBesides
import Derived.Deep.QuietTactic
import Derived.BigQuiet
import Derived.Deep.OwnRows
import Derived.KernelRfl
namespace Go.Proofs.Qxb6612766aMods
open Go.RowKit
set_option linter.unusedVariables false

/-- A slice of bytes: where it has one its cells lie in a row. -/
def Row (w : World) (a : Option Addr) (n : Nat) (Z : Nat → Int) : Prop :=
  0 < n → ∃ b off, a = some ⟨b, off, none⟩ ∧ ∀ i, i < n → w.cell? ⟨b, off + i, none⟩ = some (.int .u8 (Z i))

/-- The bytes Z 0 .. Z (n-1) and a comma lie at the head of block g. -/
def El (w : World) (g n : Nat) (Z : Nat → Int) : Prop := (∀ i, i < n → w.cell? ⟨g, i, none⟩ = some (.int .u8 (Z i))) ∧ w.cell? ⟨g, n, none⟩ = some (.int .u8 44)

theorem drewN_more {w wr : World} (h : ∃ n, wr = w.drewN n) (m : Nat) : ∃ n, wr.drewN m = w.drewN n := by
  obtain ⟨n, rfl⟩ := h
  exact ⟨n + m, by simp [World.drewN, Nat.add_assoc]⟩

theorem drewN_cell {w wr : World} (h : ∃ n, wr = w.drewN n) {b o : Nat} {v : Value} (hc : w.cell? ⟨b, o, none⟩ = some v) : wr.cell? ⟨b, o, none⟩ = some v := by
  obtain ⟨n, rfl⟩ := h
  exact hc

set_option maxHeartbeats 1000000 in
/-- zzEqualBytes at two slices of the same bytes. -/
theorem eq_true (ax ay : Option Addr) (n cx cy : Nat) (Z : Nat → Int) (w : World) (hn : n ≤ 1048576) (hx : Row w ax n Z) (hy : Row w ay n Z) :
    Calls Trym.prog 10 #[.slice ax n cx, .slice ay n cy] w fun e w' => e = .returned (.bool true) ∧ ∃ k, w' = w.drewN k := by
  have HX : Hid (Row w ax n Z) := hx
  have HY : Hid (Row w ay n Z) := hy
  clear hx hy
  go_enter Trym.func10, Trym.ntmps10
  go_wp2
  go_loopw [5] (fun i wr => ∃ k : Nat, k ≤ n ∧ i = .int .i64 k ∧ Hid (∃ m, wr = w.drewN m)) (fun i _ => n - (intOf i).toNat)
  case atStart => exact ⟨0, Nat.zero_le _, rfl, 0, rfl⟩
  case round =>
    obtain ⟨k, hk, rfl, hw⟩ := hrel
    by_cases hlt : k < n
    · obtain ⟨b1, o1, ha1, hc1⟩ := HX.out (by omega)
      obtain ⟨b2, o2, ha2, hc2⟩ := HY.out (by omega)
      have x1 := drewN_cell hw.out (hc1 k hlt)
      have x2 := drewN_cell hw.out (hc2 k hlt)
      clear hc1 hc2
      subst ha1
      subst ha2
      have hkn : (k : Int) < (n : Int) := by omega
      go_wp2
      go_quiet (fail)
      go_wp2
      go_roundw
      case rel => exact ⟨k + 1, by omega, by go_num, drewN_more hw.out nq⟩
      case measure => simp [intOf]; omega
    · go_wp2
      go_ret
      exact ⟨rfl, hw.out⟩

set_option maxHeartbeats 1000000 in
/-- zzIsElement at the bytes and a comma. -/
theorem el_true (g : Nat) (ay : Option Addr) (n cx cy : Nat) (Z : Nat → Int) (w : World) (hn : n ≤ 1048576) (hx : El w g n Z) (hy : Row w ay n Z) :
    Calls Trym.prog 12 #[.slice (some ⟨g, 0, none⟩) (n + 1) cx, .slice ay n cy] w fun e w' => e = .returned (.bool true) ∧ ∃ k, w' = w.drewN k := by
  have HX : Hid (El w g n Z) := hx
  have HY : Hid (Row w ay n Z) := hy
  clear hx hy
  go_enter Trym.func12, Trym.ntmps12
  go_wp2
  go_loopw [5] (fun i wr => ∃ k : Nat, k ≤ n ∧ i = .int .i64 k ∧ Hid (∃ m, wr = w.drewN m)) (fun i _ => n - (intOf i).toNat)
  case atStart => exact ⟨0, Nat.zero_le _, rfl, 0, rfl⟩
  case round =>
    obtain ⟨k, hk, rfl, hw⟩ := hrel
    have x44 := drewN_cell hw.out HX.out.2
    have hkn1 : (n : Int) < (n : Int) + 1 := by omega
    by_cases hlt : k < n
    · obtain ⟨b2, o2, ha2, hc2⟩ := HY.out (by omega)
      have x1 := drewN_cell hw.out (HX.out.1 k hlt)
      have x2 := drewN_cell hw.out (hc2 k hlt)
      clear hc2
      subst ha2
      have hkn : (k : Int) < (n : Int) := by omega
      have hkn2 : (k : Int) < (n : Int) + 1 := by omega
      go_wp2
      go_quiet (fail)
      go_wp2
      go_roundw
      case rel => exact ⟨k + 1, by omega, by go_num, drewN_more hw.out nq⟩
      case measure => simp [intOf]; omega
    · go_wp2
      go_ret
      exact ⟨rfl, hw.out⟩
end Go.Proofs.Qxb6612766aMods
