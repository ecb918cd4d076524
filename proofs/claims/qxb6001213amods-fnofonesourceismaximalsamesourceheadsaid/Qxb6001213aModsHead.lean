import Derived.Test.Qxb6001213aModsSame
namespace Go.Proofs.Qxb6001213aMods
open Go.RowKit
set_option linter.unusedVariables false

/-- The entries' sources in memory: entry i's first cell holds S i. -/
def Srcs (w : World) (b len : Nat) (S : Nat → ByteArray) : Prop := ∀ i, i < len → w.cell? ⟨b, i * 3, none⟩ = some (.string (S i))

/-- k is the length of the head of one source. -/
def IsHead (S : Nat → ByteArray) (len k : Nat) : Prop := 1 ≤ k ∧ k ≤ len ∧ (∀ i, i < k → S i = S 0) ∧ (k = len ∨ S k ≠ S 0)

theorem IsHead.uniq {S : Nat → ByteArray} {len k k' : Nat} (h : IsHead S len k) (h' : IsHead S len k') : k = k' := by
  obtain ⟨a1, a2, a3, a4⟩ := h
  obtain ⟨b1, b2, b3, b4⟩ := h'
  rcases Nat.lt_trichotomy k k' with hlt | heq | hgt
  · rcases a4 with e | e
    · omega
    · exact absurd (b3 k hlt) e
  · exact heq
  · rcases b4 with e | e
    · omega
    · exact absurd (a3 k' hgt) e

theorem toList_inj {a b : ByteArray} (h : (a.toList == b.toList) = true) : a = b := by
  simp only [beq_iff_eq] at h
  rw [ByteArray.toList_eq, ByteArray.toList_eq] at h
  cases a
  cases b
  simp_all

theorem toList_ne {a b : ByteArray} (h : (a.toList == b.toList) = false) : a ≠ b := by
  intro e
  subst e
  simp at h

theorem all_snoc {S : Nat → ByteArray} {k : Nat} (hall : ∀ j, j < k → S j = S 0) (h : ((S k).toList == (S 0).toList) = true) : ∀ j, j < k + 1 → S j = S 0 := by
  intro j hj
  by_cases e : j = k
  · subst e
    exact toList_inj h
  · exact hall j (by omega)

set_option maxHeartbeats 400000 in
theorem head_any (b len cap : Nat) (S : Nat → ByteArray) (w : World) (h1 : 1 ≤ len) (h2 : len ≤ 65536) (hS : Srcs w b len S) :
    Calls Trym.prog 9 #[.slice (some ⟨b, 0, none⟩) len cap] w fun e w' => ∃ k : Nat, e = .returned (.int .i64 k) ∧ IsHead S len k ∧ ∃ n, w' = w.drewN n := by
  have H : Hid (Srcs w b len S) := hS
  clear hS
  go_enter Trym.func9, Trym.ntmps9
  go_wp2
  go_loopw [3] (fun i wr => ∃ k : Nat, 1 ≤ k ∧ k ≤ len ∧ i = .int .i64 k ∧ Hid (∀ j, j < k → S j = S 0) ∧ Hid (∃ n, wr = w.drewN n)) (fun i _ => len - (intOf i).toNat)
  case atStart => exact ⟨1, Nat.le_refl _, h1, rfl, fun j h => by rw [show j = 0 by omega], 0, rfl⟩
  case round =>
    obtain ⟨k, hk1, hk, rfl, hall, hw⟩ := hrel
    by_cases hlt : k < len
    · have hlt' : (k : Int) < (len : Int) := by omega
      have hlt0 : (0 : Int) < (len : Int) := by omega
      have c0 : wr.cell? ⟨b, 0, none⟩ = some (.string (S 0)) := by obtain ⟨n, rfl⟩ := hw.out; simpa using H.out 0 (by omega)
      have c1 : wr.cell? ⟨b, k * 3, none⟩ = some (.string (S k)) := by obtain ⟨n, rfl⟩ := hw.out; simpa using H.out k hlt
      go_wp2
      go_quiet (fail)
      go_wp2
      · have ht : ((S k).toList == (S 0).toList) = true := by assumption
        go_roundw
        case rel => exact ⟨k + 1, by omega, by omega, by go_num, all_snoc hall.out ht, drewN_more hw.out nq⟩
        case measure => simp [intOf]; omega
      · have ht : ((S k).toList == (S 0).toList) = false := by assumption
        go_ret
        exact ⟨k, rfl, ⟨hk1, hk, hall.out, .inr (toList_ne ht)⟩, drewN_more hw.out nq⟩
    · have hd : decide ((k : Int) < (len : Int)) = false := by simp; omega
      go_wp2
      go_quiet (fail)
      go_wp2
      go_ret
      exact ⟨k, rfl, ⟨hk1, hk, hall.out, .inl (by omega)⟩, drewN_more hw.out nq⟩

/-- ZZofOneSource: ofOneSource handed on. -/
theorem zzhead_any (b len cap : Nat) (S : Nat → ByteArray) (w : World) (h1 : 1 ≤ len) (h2 : len ≤ 65536) (hS : Srcs w b len S) :
    Calls Trym.prog 7 #[.slice (some ⟨b, 0, none⟩) len cap] w fun e w' => ∃ k : Nat, e = .returned (.int .i64 k) ∧ IsHead S len k ∧ ∃ n, w' = w.drewN n := by
  have H : Hid (Srcs w b len S) := hS
  clear hS
  go_enter Trym.func7, Trym.ntmps7
  go_wp2_with fail
  refine (head_any b len cap S _ h1 h2 H.out).mono ?_
  rintro e w' ⟨k, rfl, hk, hw⟩
  have HK : Hid (IsHead S len k) := hk
  clear hk
  go_wp2
  go_ret
  exact ⟨k, rfl, HK.out, hw⟩
end Go.Proofs.Qxb6001213aMods
