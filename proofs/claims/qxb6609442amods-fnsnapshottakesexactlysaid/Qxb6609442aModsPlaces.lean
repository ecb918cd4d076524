import Derived.Test.Qxb6609442aModsApplyAll
import Derived.Test.Qxb6609442aModsMaps
namespace Go.Proofs.Qxb6609442aMods
open Go.RowKit
set_option linter.unusedVariables false

/-- 'make(map[K]V, n)'. -/
theorem run_makeMap_some {P : Program} {t k e : TypeId} (ht : P.underlying t = some (.map k e)) (q : IntKind) (n : Int) (w : World) : (Instr.makeMap t (some (.int q n))).run P w = .ok (.map (some w.heap.size)) (w.alloc (.map #[] 0)) := by
  simp [Instr.makeMap, run_underlying ht, asInt, asIntOf, newObj, Result.andThen]
  rfl

theorem zero3 (w : World) : (zeroValue 3).run Trym.prog w = .ok (.int .i64 0) w := by kernel_rfl

/-- Where the record of an id stands among the first k: the last one, if there are several. -/
def plc (I : Nat → ByteArray) : Nat → ByteArray → Option Nat
  | 0, _ => none
  | k + 1, s => if s = I k then some k else plc I k s

theorem plc_lt {I : Nat → ByteArray} {s : ByteArray} {j : Nat} : ∀ {k : Nat}, plc I k s = some j → j < k
  | 0, h => by cases h
  | k + 1, h => by
    unfold plc at h
    split at h
    · cases h; omega
    · have := plc_lt h; omega

/-- The map of places. -/
def plcF (I : Nat → ByteArray) (k : Nat) : ByteArray → Option Value := fun s => (plc I k s).map fun i => .int .i64 (i : Int)

theorem plcF_zero (I : Nat → ByteArray) : plcF I 0 = fun _ => none := rfl
theorem plcF_step (I : Nat → ByteArray) (k : Nat) : upd (plcF I k) (I k) (.int .i64 (k : Int)) = plcF I (k + 1) := by
  funext s
  unfold upd plcF
  rw [show plc I (k + 1) s = if s = I k then some k else plc I k s from rfl]
  split <;> rfl

/-- What zzPlaces answers. -/
def PlacesPost (I : Nat → ByteArray) (nr : Nat) (w : World) (e : Ending) (w' : World) : Prop :=
  e = .returned (.tuple #[.map none, .bool false]) ∨ (e = .returned (.tuple #[.map (some w.heap.size), .bool true]) ∧ StrMap Trym.prog 9 w' w.heap.size nr (plcF I nr))

set_option maxHeartbeats 1000000 in
theorem places_any (a : Option Addr) (nr cr : Nat) (I T : Nat → ByteArray) (w : World) (hnr : nr ≤ 65536) (hR : RecRow w a nr I T) :
    Calls Trym.prog 6 #[.slice a nr cr] w fun e w' => PlacesPost I nr w e w' ∧ Below w.heap.size w w' := by
  have H : Hid (RecRow w a nr I T) := hR
  clear hR
  have hmm := fun n => run_makeMap_some (P := Trym.prog) (t := 26) Trym.underlying26 .i64 n
  go_enter Trym.func6, Trym.ntmps6
  go_wp2
  go_loopw [5] (fun i wr => ∃ k : Nat, k ≤ nr ∧ i = .int .i64 k ∧ StrMap Trym.prog 9 wr w.heap.size k (plcF I k) ∧ Below w.heap.size w wr) (fun i _ => nr - (intOf i).toNat)
  case atStart => exact ⟨0, Nat.zero_le _, rfl, StrMap.made w _ _, (Below.refl _ _).alloc (Nat.le_refl _) _⟩
  case round =>
    obtain ⟨k, hk, rfl, hmap, hbel⟩ := hrel
    by_cases hlt : k < nr
    · obtain ⟨b, off, ha, hcs⟩ := H.out (by omega)
      obtain ⟨x1, x2, hs1, -⟩ := hcs k hlt
      clear hcs
      subst ha
      have y1 : wr.cell? ⟨b, off + k * 2, none⟩ = some (.string (I k)) := by rw [hbel.cell (p := ⟨b, off + k * 2, none⟩) (lt_of_cell x1)]; exact x1
      clear x1 x2
      have hlook := (hmap.look Trym.underlying9 Trym.underlying26 (zero3 wr) hs1).2
      cases hp : plc I k (I k) with
      | some j =>
        rw [show plcF I k (I k) = some (.int .i64 (j : Int)) by simp [plcF, hp]] at hlook
        simp only [Option.getD_some, Option.isSome_some] at hlook
        have HP : Hid (plc I k (I k) = some j) := hp
        clear hp
        go_wp2
        go_ret2
        exact ⟨.inl rfl, hbel⟩
      | none =>
        rw [show plcF I k (I k) = none by simp [plcF, hp]] at hlook
        simp only [Option.getD_none, Option.isSome_none] at hlook
        have HP : Hid (plc I k (I k) = none) := hp
        clear hp
        obtain ⟨w1, hrun, hmap1, hg1, hsz1⟩ := hmap.store Trym.underlying9 Trym.underlying26 (by unfold maxLen; omega) hs1 (.int .i64 (k : Int))
        rw [plcF_step] at hmap1
        have hbel1 := hbel.grown hg1 hbel.size (fun j hj => by cases hj; exact Nat.le_refl _)
        clear hmap hbel hg1 hsz1
        go_wp2
        go_roundw
        case rel => exact ⟨k + 1, by omega, by go_num, hmap1, hbel1⟩
        case measure => simp [intOf]; omega
    · have hkm : k = nr := by omega
      subst hkm
      go_wp2
      go_ret2
      exact ⟨.inr ⟨rfl, hmap⟩, hbel⟩
end Go.Proofs.Qxb6609442aMods
