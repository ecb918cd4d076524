import Derived.Test.Qxb6609442aModsDone
import Derived.RegionTactic
import Derived.BigRegion
import Derived.ChangeAlike
import Derived.Deep.RegionWith
import Derived.Deep.DeepCutAuto
namespace Go.Proofs.Qxb6609442aMods
open Go.RowKit
set_option linter.unusedVariables false

/-! ### worlds that part in one block and in new ones -/
theorem grown_setCell {w w' : World} {b : Nat} (h : w.grownBy w' (some b)) (o : Nat) (v : Value) : w.grownBy (w'.setCell ⟨b, o, none⟩ v) (some b) :=
  ⟨h.os, h.tape, h.output, by simpa [World.setCell] using h.size, fun k hk hne => (Below.heap_setCell _ _ _ _ (fun e => hne (by rw [e]))).trans (h.block k hk hne)⟩
theorem grown_alloc {w w' : World} {row : Option Nat} (h : w.grownBy w' row) (o : Obj) : w.grownBy (w'.alloc o) row :=
  ⟨h.os, h.tape, h.output, by have := h.size; simp; omega, fun k hk hne => (Below.heap_alloc _ _ _ (Nat.lt_of_lt_of_le hk h.size)).trans (h.block k hk hne)⟩
theorem grown_drew {w w' : World} {row : Option Nat} (h : w.grownBy w' row) : w.grownBy w'.drew row := ⟨h.os, h.tape, h.output, h.size, h.block⟩

/-- What apply leaves: the item's status is the patch's; its notes are no longer than n; nothing else that was there has turned. -/
structure Applied (w : World) (b : Nat) (st : ByteArray) (n : Nat) (w' : World) : Prop where
  row : ∃ f s, w'.rowIs b 80 19 f ∧ f 4 = .string st ∧ f 15 = .string s ∧ s.size ≤ n
  grown : w.grownBy w' (some b)

set_option maxHeartbeats 1000000 in
theorem apply_oo (st reason note : ByteArray) (hn : note.toList.isEmpty = true) (hnote : note.size ≤ 1048576) (b : Nat) (f : Nat → Value) (s0 : ByteArray) (w : World) (hr : w.rowIs b 80 19 f) (h15 : f 15 = .string s0) (hs0 : s0.size ≤ 1152921504606846976) :
    Calls Trym.prog 19 #[.agg #[.string st, .int .u64 0, .int .i64 0, .pointer none, .bool false, .string reason, .string note], .pointer (some ⟨b, 0, none⟩)] w fun e w' => e = .returned (.tuple #[]) ∧ Applied w b st (s0.size + 1048577) w' := by
  have hb : b < w.heap.size := hr.lt
  have hne : ¬ b = w.heap.size := by omega
  have hne' : ¬ w.heap.size = b := by omega
  have c4 := hr.cell (i := 4) (by omega)
  have c10 := hr.cell (i := 10) (by omega)
  have c11 := hr.cell (i := 11) (by omega)
  have c12 := hr.cell (i := 12) (by omega)
  have c13 := hr.cell (i := 13) (by omega)
  have c14 := hr.cell (i := 14) (by omega)
  have c15 := hr.cell (i := 15) (by omega)
  rw [h15] at c15
  have f4 := hr.frozen 4
  have f10 := hr.frozen 10
  have f11 := hr.frozen 11
  have f12 := hr.frozen 12
  have f13 := hr.frozen 13
  have f14 := hr.frozen 14
  have f15 := hr.frozen 15
  have HR : Hid (w.rowIs b 80 19 f) := hr
  have H15 : Hid (f 15 = .string s0) := h15
  clear hr h15
  go_enter Trym.func19, Trym.ntmps19
  go_wp2
  go_region
  go_wp2
  all_goals
    go_end0
    refine ⟨rfl, ?_⟩
    refine ⟨⟨_, s0, (((((HR.out.set 4 (.string st)).set 10 _).set 11 _).set 12 _).alloc _).drew, by simp, by simpa using H15.out, by omega⟩, (grown_drew (grown_alloc (grown_setCell (grown_setCell (grown_setCell (grown_setCell (World.grownBy.refl _ _) _ _) _ _) _ _) _ _) _))⟩

set_option maxHeartbeats 1000000 in
theorem apply_on (st reason note : ByteArray) (hn : note.toList.isEmpty = false) (hnote : note.size ≤ 1048576) (b : Nat) (f : Nat → Value) (s0 : ByteArray) (w : World) (hr : w.rowIs b 80 19 f) (h15 : f 15 = .string s0) (hs0 : s0.size ≤ 1152921504606846976) :
    Calls Trym.prog 19 #[.agg #[.string st, .int .u64 0, .int .i64 0, .pointer none, .bool false, .string reason, .string note], .pointer (some ⟨b, 0, none⟩)] w fun e w' => e = .returned (.tuple #[]) ∧ Applied w b st (s0.size + 1048577) w' := by
  have hb : b < w.heap.size := hr.lt
  have hne : ¬ b = w.heap.size := by omega
  have hne' : ¬ w.heap.size = b := by omega
  have c4 := hr.cell (i := 4) (by omega)
  have c10 := hr.cell (i := 10) (by omega)
  have c11 := hr.cell (i := 11) (by omega)
  have c12 := hr.cell (i := 12) (by omega)
  have c13 := hr.cell (i := 13) (by omega)
  have c14 := hr.cell (i := 14) (by omega)
  have c15 := hr.cell (i := 15) (by omega)
  rw [h15] at c15
  have f4 := hr.frozen 4
  have f10 := hr.frozen 10
  have f11 := hr.frozen 11
  have f12 := hr.frozen 12
  have f13 := hr.frozen 13
  have f14 := hr.frozen 14
  have f15 := hr.frozen 15
  have HR : Hid (w.rowIs b 80 19 f) := hr
  have H15 : Hid (f 15 = .string s0) := h15
  clear hr h15
  go_enter Trym.func19, Trym.ntmps19
  go_wp2
  go_region
  go_wp2
  go_region_with (go_at_call 20; refine (withLine_any _ _ _ hs0 hnote).mono ?_; rintro e w' ⟨⟨s, rfl, hs⟩, rfl⟩)
  all_goals
    go_end0
    refine ⟨rfl, ?_⟩
    refine ⟨⟨_, s, ((((((HR.out.set 4 (.string st)).set 10 _).set 11 _).set 12 _).set 15 (.string s)).alloc _).drew.drew, by simp, by simp, by omega⟩, (grown_drew (grown_drew (grown_alloc (grown_setCell (grown_setCell (grown_setCell (grown_setCell (grown_setCell (World.grownBy.refl _ _) _ _) _ _) _ _) _ _) _ _) _)))⟩

set_option maxHeartbeats 1000000 in
theorem apply_co (st reason note : ByteArray) (hn : note.toList.isEmpty = true) (hnote : note.size ≤ 1048576) (b : Nat) (f : Nat → Value) (s0 : ByteArray) (w : World) (hr : w.rowIs b 80 19 f) (h15 : f 15 = .string s0) (hs0 : s0.size ≤ 1152921504606846976) :
    Calls Trym.prog 19 #[.agg #[.string st, .int .u64 0, .int .i64 0, .pointer none, .bool true, .string reason, .string note], .pointer (some ⟨b, 0, none⟩)] w fun e w' => e = .returned (.tuple #[]) ∧ Applied w b st (s0.size + 1048577) w' := by
  have hb : b < w.heap.size := hr.lt
  have hne : ¬ b = w.heap.size := by omega
  have hne' : ¬ w.heap.size = b := by omega
  have c4 := hr.cell (i := 4) (by omega)
  have c10 := hr.cell (i := 10) (by omega)
  have c11 := hr.cell (i := 11) (by omega)
  have c12 := hr.cell (i := 12) (by omega)
  have c13 := hr.cell (i := 13) (by omega)
  have c14 := hr.cell (i := 14) (by omega)
  have c15 := hr.cell (i := 15) (by omega)
  rw [h15] at c15
  have f4 := hr.frozen 4
  have f10 := hr.frozen 10
  have f11 := hr.frozen 11
  have f12 := hr.frozen 12
  have f13 := hr.frozen 13
  have f14 := hr.frozen 14
  have f15 := hr.frozen 15
  have HR : Hid (w.rowIs b 80 19 f) := hr
  have H15 : Hid (f 15 = .string s0) := h15
  clear hr h15
  go_enter Trym.func19, Trym.ntmps19
  go_wp2
  go_region
  go_wp2
  go_region
  go_wp2
  all_goals
    go_end0
    refine ⟨rfl, ?_⟩
    refine ⟨⟨_, s0, ((((((((HR.out.set 4 (.string st)).set 10 _).set 11 _).set 12 _).set 13 _).set 14 _).alloc _).alloc _).drew.drew, by simp, by simpa using H15.out, by omega⟩, (grown_drew (grown_drew (grown_alloc (grown_alloc (grown_setCell (grown_setCell (grown_setCell (grown_setCell (grown_setCell (grown_setCell (World.grownBy.refl _ _) _ _) _ _) _ _) _ _) _ _) _ _) _) _)))⟩

set_option maxHeartbeats 1000000 in
theorem apply_cn (st reason note : ByteArray) (hn : note.toList.isEmpty = false) (hnote : note.size ≤ 1048576) (b : Nat) (f : Nat → Value) (s0 : ByteArray) (w : World) (hr : w.rowIs b 80 19 f) (h15 : f 15 = .string s0) (hs0 : s0.size ≤ 1152921504606846976) :
    Calls Trym.prog 19 #[.agg #[.string st, .int .u64 0, .int .i64 0, .pointer none, .bool true, .string reason, .string note], .pointer (some ⟨b, 0, none⟩)] w fun e w' => e = .returned (.tuple #[]) ∧ Applied w b st (s0.size + 1048577) w' := by
  have hb : b < w.heap.size := hr.lt
  have hne : ¬ b = w.heap.size := by omega
  have hne' : ¬ w.heap.size = b := by omega
  have c4 := hr.cell (i := 4) (by omega)
  have c10 := hr.cell (i := 10) (by omega)
  have c11 := hr.cell (i := 11) (by omega)
  have c12 := hr.cell (i := 12) (by omega)
  have c13 := hr.cell (i := 13) (by omega)
  have c14 := hr.cell (i := 14) (by omega)
  have c15 := hr.cell (i := 15) (by omega)
  rw [h15] at c15
  have f4 := hr.frozen 4
  have f10 := hr.frozen 10
  have f11 := hr.frozen 11
  have f12 := hr.frozen 12
  have f13 := hr.frozen 13
  have f14 := hr.frozen 14
  have f15 := hr.frozen 15
  have HR : Hid (w.rowIs b 80 19 f) := hr
  have H15 : Hid (f 15 = .string s0) := h15
  clear hr h15
  go_enter Trym.func19, Trym.ntmps19
  go_wp2
  go_region
  go_wp2
  go_region
  go_wp2
  go_region_with (go_at_call 20; refine (withLine_any _ _ _ hs0 hnote).mono ?_; rintro e w' ⟨⟨s, rfl, hs⟩, rfl⟩)
  all_goals
    go_end0
    refine ⟨rfl, ?_⟩
    refine ⟨⟨_, s, (((((((((HR.out.set 4 (.string st)).set 10 _).set 11 _).set 12 _).set 13 _).set 14 _).set 15 (.string s)).alloc _).alloc _).drew.drew.drew, by simp, by simp, by omega⟩, (grown_drew (grown_drew (grown_drew (grown_alloc (grown_alloc (grown_setCell (grown_setCell (grown_setCell (grown_setCell (grown_setCell (grown_setCell (grown_setCell (World.grownBy.refl _ _) _ _) _ _) _ _) _ _) _ _) _ _) _ _) _) _))))⟩

/-- apply, whatever the patch. -/
theorem apply_any (st reason note : ByteArray) (closed : Bool) (hnote : note.size ≤ 1048576) (b : Nat) (f : Nat → Value) (s0 : ByteArray) (w : World) (hr : w.rowIs b 80 19 f) (h15 : f 15 = .string s0) (hs0 : s0.size ≤ 1152921504606846976) :
    Calls Trym.prog 19 #[.agg #[.string st, .int .u64 0, .int .i64 0, .pointer none, .bool closed, .string reason, .string note], .pointer (some ⟨b, 0, none⟩)] w fun e w' => e = .returned (.tuple #[]) ∧ Applied w b st (s0.size + 1048577) w' := by
  cases hn : note.toList.isEmpty <;> cases closed
  · exact apply_on st reason note hn hnote b f s0 w hr h15 hs0
  · exact apply_cn st reason note hn hnote b f s0 w hr h15 hs0
  · exact apply_oo st reason note hn hnote b f s0 w hr h15 hs0
  · exact apply_co st reason note hn hnote b f s0 w hr h15 hs0
end Go.Proofs.Qxb6609442aMods
