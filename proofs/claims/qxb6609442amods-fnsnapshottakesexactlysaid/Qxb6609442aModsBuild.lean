import Derived.Test.Qxb6609442aModsPats
import Derived.StillTailTactics
namespace Go.Proofs.Qxb6609442aMods
open Go.RowKit
set_option linter.unusedVariables false

set_option maxHeartbeats 4000000 in
set_option maxRecDepth 100000 in
/-- zzBuildPatches. -/
theorem buildPats_any (p : Option Addr) (np cp : Nat) (Q : Nat → Pat) (w : World) (hnp : np ≤ 65536) (hP : PatRow w p np Q) :
    Calls Trym.prog 9 #[.slice p np cp] w fun e w' => e = .returned (.map (some w.heap.size)) ∧ ∃ f, Pats w Q np f w' := by
  have H : Hid (PatRow w p np Q) := hP
  clear hP
  go_enter Trym.func9, Trym.ntmps9
  go_wp2_with fail
  refine (newPats_any w Q).mono ?_
  rintro e w0 ⟨rfl, h0⟩
  go_wp2_with fail
  go_loopw [4] (fun i wr => ∃ (k : Nat) (f : ByteArray → Option Value), k ≤ np ∧ i = .int .i64 k ∧ Pats w Q k f wr) (fun i _ => np - (intOf i).toNat)
  case atStart => exact ⟨0, _, Nat.zero_le _, rfl, h0⟩
  case round =>
    obtain ⟨k, f, hk, rfl, hps⟩ := hrel
    by_cases hlt : k < np
    · obtain ⟨b, off, ha, hcs⟩ := H.out (by omega)
      obtain ⟨x0, x1, x2, x3, x4, hs1, -⟩ := hcs k hlt
      clear hcs
      subst ha
      have y0 : wr.cell? ⟨b, off + k * 5, none⟩ = some (.string (Q k).id) := by rw [hps.below.cell (p := ⟨b, off + k * 5, none⟩) (lt_of_cell x0)]; exact x0
      have y1 : wr.cell? ⟨b, off + k * 5 + 1, none⟩ = some (.string (Q k).st) := by rw [hps.below.cell (p := ⟨b, off + k * 5 + 1, none⟩) (lt_of_cell x1)]; exact x1
      have y2 : wr.cell? ⟨b, off + k * 5 + 2, none⟩ = some (.bool (Q k).closed) := by rw [hps.below.cell (p := ⟨b, off + k * 5 + 2, none⟩) (lt_of_cell x2)]; exact x2
      have y3 : wr.cell? ⟨b, off + k * 5 + 3, none⟩ = some (.string (Q k).reason) := by rw [hps.below.cell (p := ⟨b, off + k * 5 + 3, none⟩) (lt_of_cell x3)]; exact x3
      have y4 : wr.cell? ⟨b, off + k * 5 + 4, none⟩ = some (.string (Q k).note) := by rw [hps.below.cell (p := ⟨b, off + k * 5 + 4, none⟩) (lt_of_cell x4)]; exact x4
      clear x0 x1 x2 x3 x4
      have hkn : (k : Int) < (np : Int) := by omega
      have HP : Hid (Pats w Q k f wr) := hps
      clear hps
      go_wp2_with fail
      go_still_tail 26, (by kernel_rfl)
      change wpList _ _ _ _ _ wr.drew
      go_wp2_with fail
      refine (addPat_any w Q k f _ (by omega) hs1 HP.out.drew).mono ?_
      rintro e w' ⟨rfl, f', hps'⟩
      go_wp2_with fail
      go_roundw
      case rel => exact ⟨k + 1, f', by omega, by go_num, hps'⟩
      case measure => simp [intOf]; omega
    · have hkm : k = np := by omega
      subst hkm
      go_wp2
      go_ret
      exact ⟨rfl, f, hps⟩
end Go.Proofs.Qxb6609442aMods
