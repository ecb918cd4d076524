import Derived.Test.Qxb6001213aModsEntries
namespace Go.Proofs.Qxb6001213aMods
open Go.RowKit
set_option linter.unusedVariables false

/-! ### rows carried into later worlds -/
theorem lt_of_cell {w : World} {b o : Nat} {v : Value} (hc : w.cell? ⟨b, o, none⟩ = some v) : b < w.heap.size := by
  by_cases hb : b < w.heap.size
  · exact hb
  · simp [World.cell?, Array.getElem?_eq_none (show w.heap.size ≤ b by omega)] at hc

theorem below_old {w wr : World} (h : Below w.heap.size w wr) {b o : Nat} {v : Value} (hc : w.cell? ⟨b, o, none⟩ = some v) : wr.cell? ⟨b, o, none⟩ = some v := by
  rw [h.cell (p := ⟨b, o, none⟩) (lt_of_cell hc)]
  exact hc

theorem StrRow.later {w wr : World} {a : Option Addr} {len : Nat} {S : Nat → ByteArray} (h : StrRow w a len S) (hb : Below w.heap.size w wr) : StrRow wr a len S := by
  intro h0
  obtain ⟨b, off, ha, hcs⟩ := h h0
  exact ⟨b, off, ha, fun i hi => ⟨below_old hb (hcs i hi).1, (hcs i hi).2⟩⟩

theorem IntRow.later {q : IntKind} {w wr : World} {a : Option Addr} {len : Nat} {Z : Nat → Int} (h : IntRow q w a len Z) (hb : Below w.heap.size w wr) : IntRow q wr a len Z := by
  intro h0
  obtain ⟨b, off, ha, hcs⟩ := h h0
  exact ⟨b, off, ha, fun i hi => below_old hb (hcs i hi)⟩

theorem Ent.srcs {w : World} {len : Nat} {S : Nat → ByteArray} {wr : World} (h : Ent w len len S wr) : Srcs wr w.heap.size len S := by
  obtain ⟨_, f, hr, hf⟩ := h
  intro i hi
  rw [hr.cell (by omega), hf i hi]

theorem Srcs.later {w wr : World} {b len : Nat} {S : Nat → ByteArray} (h : Srcs w b len S) (hb : Below w.heap.size w wr) : Srcs wr b len S := fun i hi => below_old hb (h i hi)

theorem below_drewN {B : Nat} {w wr : World} (h : Below B w wr) (n : Nat) : Below B w (wr.drewN n) := ⟨h.os, h.tape, h.output, h.size, h.block⟩

theorem same_true (a b : ByteArray) (w : World) (ha : a.size ≤ maxLen) (hb : b.size ≤ maxLen) (h : eqB a b = true) :
    Calls Trym.prog 8 #[.string a, .string b] w fun e w' => e = .returned (.bool true) ∧ ∃ n, w' = w.drewN n := by
  have := same_any a b w ha hb
  rwa [h] at this
theorem same_false (a b : ByteArray) (w : World) (ha : a.size ≤ maxLen) (hb : b.size ≤ maxLen) (h : eqB a b = false) :
    Calls Trym.prog 8 #[.string a, .string b] w fun e w' => e = .returned (.bool false) ∧ ∃ n, w' = w.drewN n := by
  have := same_any a b w ha hb
  rwa [h] at this

set_option maxHeartbeats 1000000 in
/-- One of the slices is too long: true at once. -/
theorem law_big (a : Option Addr) (len cap : Nat) (S : Nat → ByteArray) (a1 a2 a3 a4 : Option Addr) (l1 c1 l2 c2 l3 c3 l4 c4 : Nat) (w : World)
    (hl : len ≤ maxLen) (hc : StrRow w a len S) (hbig : ¬ (len ≤ 65536 ∧ l1 ≤ 65536 ∧ l2 ≤ 65536 ∧ l3 ≤ 65536 ∧ l4 ≤ 65536)) :
    Calls Trym.prog 3 #[.slice a len cap, .slice a1 l1 c1, .slice a2 l2 c2, .slice a3 l3 c3, .slice a4 l4 c4] w fun e w' => e = .returned (.bool true) ∧ Below w.heap.size w w' := by
  have H : Hid (StrRow w a len S) := hc
  have HB : Hid (¬ (len ≤ 65536 ∧ l1 ≤ 65536 ∧ l2 ≤ 65536 ∧ l3 ≤ 65536 ∧ l4 ≤ 65536)) := hbig
  clear hc hbig
  go_enter Trym.func3, Trym.ntmps3
  go_wp2_with fail
  refine (zzbytes_any a len cap S a1 a2 a3 a4 l1 c1 l2 c2 l3 c3 l4 c4 w hl H.out).mono ?_
  rintro e w' ⟨⟨t, rfl⟩, rfl⟩
  cases t
  · go_wp2_with fail
    go_ret
    exact ⟨rfl, Below.refl _ _⟩
  unfold maxLen at hl
  go_wp2_with fail
  · go_ret
    exact ⟨rfl, Below.refl _ _⟩
  · go_ret
    exact ⟨rfl, Below.refl _ _⟩
  · exfalso
    have := HB.out
    omega
  · go_ret
    exact ⟨rfl, Below.refl _ _⟩
  · go_ret
    exact ⟨rfl, Below.refl _ _⟩
  · go_ret
    exact ⟨rfl, Below.refl _ _⟩

set_option maxHeartbeats 1000000 in
/-- All are short: the law itself. -/
theorem law_small (a : Option Addr) (len cap : Nat) (S : Nat → ByteArray) (a1 a2 a3 a4 : Option Addr) (l1 c1 l2 c2 l3 c3 l4 c4 : Nat) (Z1 Z2 Z3 Z4 : Nat → Int) (w : World)
    (hl : len ≤ 65536) (hl1 : l1 ≤ 65536) (hl2 : l2 ≤ 65536) (hl3 : l3 ≤ 65536) (hl4 : l4 ≤ 65536)
    (hc : StrRow w a len S) (h1 : IntRow .u64 w a1 l1 Z1) (h2 : IntRow .i64 w a2 l2 Z2) (h3 : IntRow .u64 w a3 l3 Z3) (h4 : IntRow .i64 w a4 l4 Z4) :
    Calls Trym.prog 3 #[.slice a len cap, .slice a1 l1 c1, .slice a2 l2 c2, .slice a3 l3 c3, .slice a4 l4 c4] w fun e w' => e = .returned (.bool true) ∧ Below w.heap.size w w' := by
  have H : Hid (StrRow w a len S) := hc
  have H1 : Hid (IntRow .u64 w a1 l1 Z1) := h1
  have H2 : Hid (IntRow .i64 w a2 l2 Z2) := h2
  have H3 : Hid (IntRow .u64 w a3 l3 Z3) := h3
  have H4 : Hid (IntRow .i64 w a4 l4 Z4) := h4
  clear hc h1 h2 h3 h4
  go_enter Trym.func3, Trym.ntmps3
  go_wp2_with fail
  refine (zzbytes_any a len cap S a1 a2 a3 a4 l1 c1 l2 c2 l3 c3 l4 c4 w (by unfold maxLen; omega) H.out).mono ?_
  rintro e w' ⟨⟨t, rfl⟩, hw'⟩
  subst hw'
  cases t
  · go_wp2_with fail
    go_ret
    exact ⟨rfl, Below.refl _ _⟩
  go_wp2_with fail
  refine (bytes_any a len cap S _ (by unfold maxLen; omega) H.out).mono ?_
  rintro e w' ⟨⟨t, rfl⟩, hw'⟩
  subst hw'
  by_cases hlen : len = 0
  · subst hlen
    go_wp2_with fail
    · go_ret
      exact ⟨rfl, Below.refl _ _⟩
    · go_ret
      exact ⟨rfl, Below.refl _ _⟩
  have hpos : 0 < len := by omega
  have hlb : ((len : Int) == 0) = false := beq_eq_false_iff_ne.2 (by omega)
  clear hlen
  go_wp2_with fail
  · go_ret
    exact ⟨rfl, Below.refl _ _⟩
  refine (entries_any a len cap S a1 a2 l1 c1 l2 c2 Z1 Z2 _ hl hl1 hl2 H.out H1.out H2.out).mono ?_
  rintro e w1 ⟨rfl, he1⟩
  go_wp2_with fail
  refine (entries_any a len cap S a3 a4 l3 c3 l4 c4 Z3 Z4 _ hl hl3 hl4 (H.out.later he1.below) (H3.out.later he1.below) (H4.out.later he1.below)).mono ?_
  rintro e w2 ⟨rfl, he2⟩
  go_wp2_with fail
  refine (zzhead_any _ len len S _ hpos hl (he1.srcs.later he2.below)).mono ?_
  rintro e w3 ⟨k, rfl, hk, n3, rfl⟩
  have HK : Hid (IsHead S len k) := hk
  clear hk
  go_wp2_with fail
  refine (zzhead_any _ len len S (w2.drewN n3) hpos hl (fun i hi => he2.srcs i hi)).mono ?_
  rintro e w4 ⟨k', rfl, hk', n4, rfl⟩
  obtain rfl : k = k' := HK.out.uniq hk'
  clear hk'
  have hk1 : 1 ≤ k := HK.out.1
  have hk2 : k ≤ len := HK.out.2.1
  obtain ⟨b, off, ha, hcs⟩ := H.out hpos
  have HC : Hid (∀ i, i < len → w2.cell? ⟨b, off + i, none⟩ = some (.string (S i)) ∧ (S i).size ≤ maxLen) := fun i hi => ⟨below_old he2.below (below_old he1.below (hcs i hi).1), (hcs i hi).2⟩
  clear hcs
  subst ha
  have hBel := he1.below.trans (he2.below.mono he1.below.size)
  have HBel : Hid (Below w'.heap.size w' w2) := hBel
  clear hBel he1 he2
  go_wp2_with fail
  go_loopw [14] (fun i wr => ∃ j : Nat, 1 ≤ j ∧ j ≤ k ∧ i = .int .i64 j ∧ Hid (∃ n, wr = w2.drewN n)) (fun i _ => k - (intOf i).toNat)
  case atStart => exact ⟨1, by omega, hk1, rfl, _, rfl⟩
  case round =>
    obtain ⟨j, hj1, hj2, rfl, hw⟩ := hrel
    have hp0 : (0 : Int) < (len : Int) := by omega
    have cc : ∀ i, i < len → wr.cell? ⟨b, off + i, none⟩ = some (.string (S i)) := fun i hi => by obtain ⟨n, rfl⟩ := hw.out; exact (HC.out i hi).1
    have x0 : wr.cell? ⟨b, off, none⟩ = some (.string (S 0)) := cc 0 hpos
    by_cases hlt : j < k
    · have hjl : (j : Int) < (len : Int) := by omega
      have xj := cc j (by omega)
      have heq : eqB (S j) (S 0) = true := by unfold eqB; rw [decide_eq_true_eq]; exact HK.out.2.2.1 j hlt
      have HE : Hid (eqB (S j) (S 0) = true) := heq
      clear heq cc
      go_wp2_with fail
      go_quiet ((go_at_call 8; exact Calls.quiet_of (same_true _ _ _ (HC.out j (by omega)).2 (HC.out 0 hpos).2 HE.out)))
      go_wp2_with fail
      go_roundw
      case rel => exact ⟨j + 1, by omega, by omega, by go_num, drewN_more hw.out nq⟩
      case measure => simp [intOf]; omega
    · have hjk : j = k := by omega
      subst hjk
      rcases HK.out.2.2.2 with he | hne
      · have hd : decide ((j : Int) < (len : Int)) = false := by simp; omega
        clear cc
        go_wp2_with fail
        go_quiet (fail)
        go_wp2_with fail
        go_ret
        obtain ⟨n, rfl⟩ := hw.out
        exact ⟨rfl, below_drewN (below_drewN HBel.out _) _⟩
      · by_cases hjl' : j < len
        · have hjl : (j : Int) < (len : Int) := by omega
          obtain ⟨m, hm⟩ : ∃ m, m + 1 = j := ⟨j - 1, by omega⟩
          have hml : (m : Int) < (len : Int) := by omega
          have hml' : m < len := by omega
          have hwr : IntKind.i64.wrap ((j : Int) - 1) = (m : Int) := by rw [IntKind.wrap_i64]; omega
          have xj := cc j (by omega)
          have xm := cc m hml'
          have heq : eqB (S j) (S m) = false := by
            unfold eqB
            rw [decide_eq_false_iff_not]
            intro e
            exact hne (e.trans (HK.out.2.2.1 m (by omega)))
          have HE : Hid (eqB (S j) (S m) = false) := heq
          clear heq cc hne hm
          go_wp2_with fail
          go_quiet ((go_at_call 8; exact Calls.quiet_of (same_false _ _ _ (HC.out j (by omega)).2 (HC.out m hml').2 HE.out)))
          go_wp2_with fail
          go_ret
          obtain ⟨n, rfl⟩ := hw.out
          exact ⟨rfl, below_drewN (below_drewN HBel.out _) _⟩
        · have hd : decide ((j : Int) < (len : Int)) = false := by simp; omega
          clear cc hne
          go_wp2_with fail
          go_quiet (fail)
          go_wp2_with fail
          go_ret
          obtain ⟨n, rfl⟩ := hw.out
          exact ⟨rfl, below_drewN (below_drewN HBel.out _) _⟩

/-- THE LAW: true, whatever came in; nothing that was there is written. -/
theorem law_walk (a : Option Addr) (len cap : Nat) (S : Nat → ByteArray) (a1 a2 a3 a4 : Option Addr) (l1 c1 l2 c2 l3 c3 l4 c4 : Nat) (Z1 Z2 Z3 Z4 : Nat → Int) (w : World)
    (hl : len ≤ maxLen) (hc : StrRow w a len S) (h1 : IntRow .u64 w a1 l1 Z1) (h2 : IntRow .i64 w a2 l2 Z2) (h3 : IntRow .u64 w a3 l3 Z3) (h4 : IntRow .i64 w a4 l4 Z4) :
    Calls Trym.prog 3 #[.slice a len cap, .slice a1 l1 c1, .slice a2 l2 c2, .slice a3 l3 c3, .slice a4 l4 c4] w fun e w' => e = .returned (.bool true) ∧ Below w.heap.size w w' := by
  by_cases hs : len ≤ 65536 ∧ l1 ≤ 65536 ∧ l2 ≤ 65536 ∧ l3 ≤ 65536 ∧ l4 ≤ 65536
  · obtain ⟨g0, g1, g2, g3, g4⟩ := hs
    exact law_small a len cap S a1 a2 a3 a4 l1 c1 l2 c2 l3 c3 l4 c4 Z1 Z2 Z3 Z4 w g0 g1 g2 g3 g4 hc h1 h2 h3 h4
  · exact law_big a len cap S a1 a2 a3 a4 l1 c1 l2 c2 l3 c3 l4 c4 w hl hc hs
end Go.Proofs.Qxb6001213aMods
