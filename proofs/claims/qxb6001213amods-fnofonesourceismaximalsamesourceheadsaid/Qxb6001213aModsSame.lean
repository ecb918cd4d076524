import Derived.Test.Qxb6001213aModsProg
import Derived.WalkKit
import Derived.Outline
import Derived.WalkSpells
import Derived.WalkLawsBesides
import Derived.Deep.QuietTactic
import Derived.BigQuiet
import Derived.KernelRfl
namespace Go.Proofs.Qxb6001213aMods
open Go.RowKit
set_option linter.unusedVariables false

/-- Are the two strings one? -/
def eqB (a b : ByteArray) : Bool := decide (a = b)

theorem eqB_ne_size {a b : ByteArray} (h : ¬ a.size = b.size) : eqB a b = false := by
  unfold eqB; rw [decide_eq_false_iff_not]; intro e; exact h (by rw [e])

theorem eqB_of_all {a b : ByteArray} {k : Nat} (hs : ((a.size : Int) != (b.size : Int)) = false) (hk : ¬ k < a.size) (h : ∀ j (h : j < k) (h1 : j < a.size) (h2 : j < b.size), a[j] = b[j]) : eqB a b = true := by
  unfold eqB
  rw [decide_eq_true_eq]
  refine ByteArray.ext_getElem (by simp at hs; omega) fun i h1 h2 => h i (by omega) h1 h2

theorem eqB_of_byte {a b : ByteArray} {k : Nat} (h1 : k < a.size) (h2 : k < b.size) (h : ((a[k].toNat : Int) != (b[k].toNat : Int)) = true) : eqB a b = false := by
  unfold eqB
  rw [decide_eq_false_iff_not]
  intro e
  subst e
  simp at h

theorem all_step {a b : ByteArray} {k : Nat} (h1 : k < a.size) (h2 : k < b.size) (h : ((a[k].toNat : Int) != (b[k].toNat : Int)) = false) (hall : ∀ j (h : j < k) (h1 : j < a.size) (h2 : j < b.size), a[j] = b[j]) :
    ∀ j (h : j < k + 1) (h1 : j < a.size) (h2 : j < b.size), a[j] = b[j] := by
  intro j hj h1' h2'
  by_cases e : j = k
  · subst e
    simp at h
    exact UInt8.toNat_inj.1 (by omega)
  · exact hall j (by omega) h1' h2'

theorem drewN_more {w wr : World} (h : ∃ n, wr = w.drewN n) (m : Nat) : ∃ n, wr.drewN m = w.drewN n := by
  obtain ⟨n, rfl⟩ := h
  exact ⟨n + m, by simp [World.drewN, Nat.add_assoc]⟩

theorem same_size_ne (a b : ByteArray) (w : World) (hs : ((a.size : Int) != (b.size : Int)) = true) :
    Calls Trym.prog 8 #[.string a, .string b] w fun e w' => e = .returned (.bool (eqB a b)) ∧ ∃ n, w' = w.drewN n := by
  have hf : eqB a b = false := eqB_ne_size (by simp at hs; omega)
  have HF : Hid (eqB a b = false) := hf
  clear hf
  go_enter Trym.func8, Trym.ntmps8
  go_wp2
  go_ret
  exact ⟨by rw [HF.out]; rfl, 0, rfl⟩

set_option maxHeartbeats 400000 in
theorem same_size_eq (a b : ByteArray) (w : World) (ha : a.size ≤ maxLen) (hb : b.size ≤ maxLen) (hs : ((a.size : Int) != (b.size : Int)) = false) :
    Calls Trym.prog 8 #[.string a, .string b] w fun e w' => e = .returned (.bool (eqB a b)) ∧ ∃ n, w' = w.drewN n := by
  unfold maxLen at ha hb
  go_enter Trym.func8, Trym.ntmps8
  go_wp2
  go_loopw [5] (fun i wr => ∃ k : Nat, k ≤ a.size ∧ i = .int .i64 k ∧ Hid (∀ j (h : j < k) (h1 : j < a.size) (h2 : j < b.size), a[j] = b[j]) ∧ Hid (∃ n, wr = w.drewN n)) (fun i _ => a.size - (intOf i).toNat)
  case atStart => exact ⟨0, Nat.zero_le _, rfl, fun j h => by omega, 0, rfl⟩
  case round =>
    obtain ⟨k, hk, rfl, hall, hw⟩ := hrel
    by_cases hlt : k < a.size
    · have hkb : k < b.size := by simp at hs; omega
      go_wp2
      go_quiet (fail)
      go_wp2
      · have ht : ((a[k].toNat : Int) != (b[k].toNat : Int)) = true := by assumption
        have he := eqB_of_byte hlt hkb ht
        go_ret
        exact ⟨by rw [he]; rfl, drewN_more hw.out nq⟩
      · have ht : ((a[k].toNat : Int) != (b[k].toNat : Int)) = false := by assumption
        go_roundw
        case rel => exact ⟨k + 1, by omega, by go_num, all_step hlt hkb ht hall.out, drewN_more hw.out nq⟩
        case measure => simp [intOf]; omega
    · have he := eqB_of_all hs hlt hall.out
      have HE : Hid (eqB a b = true) := he
      clear he
      go_wp2
      go_ret
      exact ⟨by rw [HE.out]; rfl, hw.out⟩

/-- sameText: it says whether the two strings are one. -/
theorem same_any (a b : ByteArray) (w : World) (ha : a.size ≤ maxLen) (hb : b.size ≤ maxLen) :
    Calls Trym.prog 8 #[.string a, .string b] w fun e w' => e = .returned (.bool (eqB a b)) ∧ ∃ n, w' = w.drewN n := by
  cases hs : ((a.size : Int) != (b.size : Int))
  · exact same_size_eq a b w ha hb hs
  · exact same_size_ne a b w hs
end Go.Proofs.Qxb6001213aMods
