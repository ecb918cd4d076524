import Derived.Test.Qxb6609442aModsStage
namespace Go.Proofs.Qxb6609442aMods
open Go.RowKit
set_option linter.unusedVariables false

theorem zero9 (w : World) : (zeroValue 9).run Trym.prog w = .ok (.string ⟨#[]⟩) w := by kernel_rfl

/-! ### the second loop's answer, plainly -/
/-- t tells whether the first k are good. -/
def WantOk (G : Nat → Bool) (k : Nat) (t : Bool) : Prop := t = true ↔ ∀ j, j < k → G j = true

section
variable {G : Nat → Bool} {k np : Nat} {got t : Bool}
theorem want_start : WantOk G 0 true := ⟨fun _ j h => absurd h (Nat.not_lt_zero _), fun _ => rfl⟩
theorem want_no (h : G k = false) : WantOk G (k + 1) false :=
  ⟨fun e => (by cases e), fun e => (by have := e k (by omega); rw [h] at this; cases this)⟩
theorem want_yes (h : WantOk G k true) (hk : G k = true) : WantOk G (k + 1) true := by
  refine ⟨fun _ j hj => ?_, fun _ => rfl⟩
  by_cases e : j = k
  · rw [e]; exact hk
  · exact h.1 rfl j (by omega)
theorem want_false (hg : WantOk G np got) (h : WantOk G k false) (hk : k ≤ np) : got = false := by
  cases got with
  | false => rfl
  | true => exact absurd (h.2 fun j hj => hg.1 rfl j (by omega)) (by simp)
theorem want_same (hg : WantOk G np got) (h : WantOk G np t) : got = t := by
  have e := Iff.trans hg (Iff.symm h)
  cases got <;> cases t <;> simp_all
end

set_option maxHeartbeats 4000000 in
set_option maxRecDepth 100000 in
/-- Too many records or patches: true at once. -/
theorem law_big (a : Option Addr) (nr cr : Nat) (I T : Nat → ByteArray) (p : Option Addr) (np cp : Nat) (Q : Nat → Pat) (w : World) (hnr : nr ≤ maxLen) (hnp : np ≤ maxLen) (hR : RecRow w a nr I T) (hP : PatRow w p np Q) (hbig : ¬ (nr ≤ 65536 ∧ np ≤ 65536)) :
    Calls Trym.prog 3 #[.slice a nr cr, .slice p np cp] w fun e w' => e = .returned (.bool true) ∧ Below w.heap.size w w' := by
  have H : Hid (RecRow w a nr I T) := hR
  have HP : Hid (PatRow w p np Q) := hP
  have HB : Hid (¬ (nr ≤ 65536 ∧ np ≤ 65536)) := hbig
  clear hR hP hbig
  go_enter Trym.func3, Trym.ntmps3
  go_wp2_with fail
  refine (zzbytes_any a nr cr I T p np cp Q w hnr hnp H.out HP.out).mono ?_
  rintro e w' ⟨⟨t, rfl, -⟩, rfl⟩
  cases t
  · go_wp2_with fail
    go_ret
    exact ⟨rfl, Below.refl _ _⟩
  unfold maxLen at hnr hnp
  go_wp2_with fail
  all_goals first | (exfalso; have := HB.out; omega) | (go_ret; exact ⟨rfl, Below.refl _ _⟩)

set_option maxHeartbeats 4000000 in
set_option maxRecDepth 100000 in
theorem law_small (a : Option Addr) (nr cr : Nat) (I T : Nat → ByteArray) (p : Option Addr) (np cp : Nat) (Q : Nat → Pat) (w : World) (hnr : nr ≤ 65536) (hnp : np ≤ 65536) (hR : RecRow w a nr I T) (hP : PatRow w p np Q) :
    Calls Trym.prog 3 #[.slice a nr cr, .slice p np cp] w fun e w' => e = .returned (.bool true) ∧ Below w.heap.size w w' := by
  have H : Hid (RecRow w a nr I T) := hR
  have HP : Hid (PatRow w p np Q) := hP
  clear hR hP
  have hmm := fun n => run_makeMap_some (P := Trym.prog) (t := 35) Trym.underlying35 .i64 n
  go_enter Trym.func3, Trym.ntmps3
  go_wp2_with fail
  refine (zzbytes_any a nr cr I T p np cp Q w (by unfold maxLen; omega) (by unfold maxLen; omega) H.out HP.out).mono ?_
  rintro e w' ⟨⟨t, rfl, hnotes⟩, hw'⟩
  subst hw'
  cases t
  · go_wp2_with fail
    go_ret
    exact ⟨rfl, Below.refl _ _⟩
  have HN : Hid (∀ j, j < np → (Q j).note.size ≤ 1048576) := hnotes rfl
  clear hnotes
  go_wp2_with fail
  refine (fits_any a nr cr I T p np cp Q w' (by unfold maxLen; omega) (by unfold maxLen; omega) H.out HP.out).mono ?_
  rintro e w1 ⟨⟨t, rfl⟩, hw1⟩
  subst hw1
  cases t
  · go_wp2_with fail
    go_ret
    exact ⟨rfl, Below.refl _ _⟩
  go_wp2_with fail
  refine (places_any a nr cr I T w1 hnr H.out).mono ?_
  rintro e w2 ⟨hpl, hbel2⟩
  rcases hpl with rfl | ⟨rfl, hmap2⟩
  · go_wp2_with fail
    go_ret
    exact ⟨rfl, hbel2⟩
  have HM2 : Hid (StrMap Trym.prog 9 w2 w1.heap.size nr (plcF I nr)) := hmap2
  clear hmap2
  go_wp2_with fail
  refine (buildSnap_any a nr cr I T w2 hnr (H.out.later hbel2)).mono ?_
  rintro e w3 ⟨rfl, hsn⟩
  have hbel3 := hbel2.trans (hsn.below.mono hbel2.size)
  go_wp2_with fail
  refine (buildPats_any p np cp Q w3 hnp (HP.out.later hbel3)).mono ?_
  rintro e w4 ⟨rfl, f, hps⟩
  have hbel4 := hbel3.trans (hps.below.mono hbel3.size)
  obtain ⟨ao, cap, hstage⟩ := stage_of hsn hps HN.out
  go_wp2_with fail
  refine (zztakes_any w4 _ _ _ ao cap I T Q nr np f hnr hnp hstage).mono ?_
  rintro e w5 ⟨⟨got, rfl, hgot⟩, hb5⟩
  have hbel5 := hbel4.trans (hb5.mono hbel4.size)
  rw [all_good hps] at hgot
  have HGOT : WantOk (fun j => good I T Q nr np (Q j).id) np got := hgot
  have HM5 : Hid (StrMap Trym.prog 9 w5 w1.heap.size nr (plcF I nr)) := by
    refine HM2.out.of_block ?_
    have h1 := HM2.out.lt
    have h2 := hsn.below.size
    have h3 := hps.below.size
    rw [hb5.block _ (by omega), hps.below.block _ (by omega), hsn.below.block _ h1]
  have HB5 : Hid (Below w1.heap.size w1 w5) := hbel5
  have H5 : Hid (RecRow w5 a nr I T) := H.out.later hbel5
  have HP5 : Hid (PatRow w5 p np Q) := HP.out.later hbel5
  clear hgot hb5 hbel4 hbel3 hbel2 hstage hps hsn hbel5 HM2 H HP HN
  go_wp2_with fail
  go_loopw [9] (fun i wr => ∃ k : Nat, k ≤ np ∧ i = .int .i64 k ∧ StrMap Trym.prog 9 wr w5.heap.size k (lastF Q k) ∧ Below w5.heap.size w5 wr) (fun i _ => np - (intOf i).toNat)
  case atStart => exact ⟨0, Nat.zero_le _, rfl, StrMap.made w5 _ _, (Below.refl _ _).alloc (Nat.le_refl _) _⟩
  case round =>
    obtain ⟨k, hk, rfl, hmap, hbel⟩ := hrel
    by_cases hlt : k < np
    · obtain ⟨b, off, hp, hcs⟩ := HP5.out (by omega)
      obtain ⟨x0, x1, -, -, -, hs1, -⟩ := hcs k hlt
      clear hcs
      subst hp
      have y0 : wr.cell? ⟨b, off + k * 5, none⟩ = some (.string (Q k).id) := by rw [hbel.cell (p := ⟨b, off + k * 5, none⟩) (lt_of_cell x0)]; exact x0
      have y1 : wr.cell? ⟨b, off + k * 5 + 1, none⟩ = some (.string (Q k).st) := by rw [hbel.cell (p := ⟨b, off + k * 5 + 1, none⟩) (lt_of_cell x1)]; exact x1
      clear x0 x1
      have hkn : (k : Int) < (np : Int) := by omega
      have hmapd : StrMap Trym.prog 9 wr.drew w5.heap.size k (lastF Q k) := hmap.of_block rfl
      obtain ⟨w6, hrun, hmap6, hg6, _⟩ := hmapd.store Trym.underlying9 Trym.underlying35 (by unfold maxLen; omega) hs1 (.string (Q k).st)
      rw [lastF_step] at hmap6
      have hbel6 := hbel.drew.grown hg6 hbel.size (fun j hj => by cases hj; exact Nat.le_refl _)
      clear hmap hmapd hbel hg6
      go_wp2_with fail
      go_still_tail 11, (by kernel_rfl)
      change wpList _ _ _ _ _ wr.drew
      go_wp2_with fail
      go_roundw
      case rel => exact ⟨k + 1, by omega, by go_num, hmap6, hbel6⟩
      case measure => simp [intOf]; omega
    · obtain rfl : np = k := by omega
      have HML : Hid (StrMap Trym.prog 9 wr w5.heap.size np (lastF Q np)) := hmap
      have HMP : Hid (StrMap Trym.prog 9 wr w1.heap.size nr (plcF I nr)) := HM5.out.of_block (hbel.block _ HM5.out.lt)
      have H6 : Hid (RecRow wr a nr I T) := H5.out.later hbel
      have HP6 : Hid (PatRow wr p np Q) := HP5.out.later hbel
      have HB6 : Hid (Below w1.heap.size w1 wr) := HB5.out.trans (hbel.mono HB5.out.size)
      clear hmap hbel H5 HP5 HB5 HM5 hlt hk
      go_wp2_with fail
      go_loop [10, 11] (fun t i => ∃ (k : Nat) (b : Bool), k ≤ np ∧ i = .int .i64 k ∧ t = .bool b ∧ WantOk (fun j => good I T Q nr np (Q j).id) k b) (fun _ i => np - (intOf i).toNat)
      case atStart => exact ⟨0, true, Nat.zero_le _, rfl, rfl, want_start⟩
      case round =>
        obtain ⟨k, t, hk, rfl, rfl, hwant⟩ := hrel
        by_cases hlt : k < np
        · cases t with
          | false =>
            have hg : got = false := want_false HGOT hwant hk
            subst hg
            go_wp2_with fail
            go_ret
            exact ⟨rfl, HB6.out⟩
          | true =>
            obtain ⟨b, off, hp, hcs⟩ := HP6.out (by omega)
            obtain ⟨x0, -, -, -, -, hs1, -⟩ := hcs k hlt
            clear hcs
            subst hp
            have hkn : (k : Int) < (np : Int) := by omega
            have hlookP := (HMP.out.look Trym.underlying9 Trym.underlying26 (zero3 wr) hs1).2
            cases hpl : plc I nr (Q k).id with
            | none =>
              rw [show plcF I nr (Q k).id = none by simp [plcF, hpl]] at hlookP
              simp only [Option.getD_none, Option.isSome_none] at hlookP
              have hno : WantOk (fun j => good I T Q nr np (Q j).id) (k + 1) false := want_no (good_none hpl)
              clear hpl
              go_wp2_with fail
              go_round
              case rel => exact ⟨k + 1, false, by omega, by go_num, rfl, hno⟩
              case measure => simp [intOf]; omega
            | some j =>
              rw [show plcF I nr (Q k).id = some (.int .i64 (j : Int)) by simp [plcF, hpl]] at hlookP
              simp only [Option.getD_some, Option.isSome_some] at hlookP
              have hj : j < nr := plc_lt hpl
              have HG : Hid (good I T Q nr np (Q k).id = (!doneB (T j) || doneB (lastOf (pats Q np (Q k).id)))) := good_some hpl
              clear hpl
              have hjn : (j : Int) < (nr : Int) := by omega
              obtain ⟨b2, off2, ha, hrs⟩ := H6.out (by omega)
              obtain ⟨-, z1, -, -⟩ := hrs j hj
              clear hrs
              subst ha
              cases hd : doneB (T j) with
              | false =>
                have hyes : WantOk (fun j => good I T Q nr np (Q j).id) (k + 1) true := want_yes hwant (by show good I T Q nr np (Q k).id = true; rw [HG.out, hd]; rfl)
                have HD : Hid (doneB (T j) = false) := hd
                clear hd
                go_wp2_with fail
                refine (isDone_any (T j) wr).mono ?_
                rintro e w7 ⟨rfl, hw7⟩
                subst hw7
                rw [HD.out]
                go_wp2_with fail
                go_round
                case rel => exact ⟨k + 1, true, by omega, by go_num, rfl, hyes⟩
                case measure => simp [intOf]; omega
              | true =>
                have hlookL := (HML.out.look Trym.underlying9 Trym.underlying35 (zero9 wr) hs1).1
                rw [lastF_at hlt] at hlookL
                simp only [Option.getD_some] at hlookL
                have HD : Hid (doneB (T j) = true) := hd
                clear hd
                go_wp2_with fail
                refine (isDone_any (T j) wr).mono ?_
                rintro e w7 ⟨rfl, hw7⟩
                subst hw7
                rw [HD.out]
                go_wp2_with fail
                refine (isDone_any (lastOf (pats Q np (Q k).id)) w7).mono ?_
                rintro e w8 ⟨rfl, hw8⟩
                subst hw8
                cases hl : doneB (lastOf (pats Q np (Q k).id)) with
                | false =>
                  have hno : WantOk (fun j => good I T Q nr np (Q j).id) (k + 1) false := want_no (by show good I T Q nr np (Q k).id = false; rw [HG.out, HD.out, hl]; rfl)
                  clear hl
                  go_wp2_with fail
                  go_round
                  case rel => exact ⟨k + 1, false, by omega, by go_num, rfl, hno⟩
                  case measure => simp [intOf]; omega
                | true =>
                  have hyes : WantOk (fun j => good I T Q nr np (Q j).id) (k + 1) true := want_yes hwant (by show good I T Q nr np (Q k).id = true; rw [HG.out, HD.out, hl]; rfl)
                  clear hl
                  go_wp2_with fail
                  go_round
                  case rel => exact ⟨k + 1, true, by omega, by go_num, rfl, hyes⟩
                  case measure => simp [intOf]; omega
        · obtain rfl : np = k := by omega
          have hg : got = t := want_same HGOT hwant
          subst hg
          have hkn : ¬ (np : Int) < (np : Int) := by omega
          go_wp2_with fail
          go_ret
          exact ⟨by cases got <;> rfl, HB6.out⟩

/-- THE LAW: true, whatever came in; nothing that was there is written. -/
theorem law_walk (a : Option Addr) (nr cr : Nat) (I T : Nat → ByteArray) (p : Option Addr) (np cp : Nat) (Q : Nat → Pat) (w : World) (hnr : nr ≤ maxLen) (hnp : np ≤ maxLen) (hR : RecRow w a nr I T) (hP : PatRow w p np Q) :
    Calls Trym.prog 3 #[.slice a nr cr, .slice p np cp] w fun e w' => e = .returned (.bool true) ∧ Below w.heap.size w w' := by
  by_cases hs : nr ≤ 65536 ∧ np ≤ 65536
  · exact law_small a nr cr I T p np cp Q w hs.1 hs.2 hR hP
  · exact law_big a nr cr I T p np cp Q w hnr hnp hR hP hs
end Go.Proofs.Qxb6609442aMods
