import Derived.Test.Qxb6609442aModsLaw
import Derived.Deep.Slices
import Derived.ChangeSame
namespace Go.Proofs.Qxb6609442aMods
open Go.RowKit Go.Deep
set_option linter.unusedVariables false

section
variable {H : Type} {enc : TypeId × Value → H} {P : Program} {w : World} {base : Nat} {spare : Nat → Bool} {held : Bool}

/-- A field of one cell, out of a struct's cells. -/
theorem field_cell {e : TypeId} {fs : Array Field} {n : Nat} {cs : List Value} {d : DataW H × List MemPlace} (he : P.underlying e = some (.struct fs)) (h : DataW.trod enc P w base spare held n e cs = some d) {j : Nat} {f : Field} (hj : fs[j]? = some f) (hc : P.cellsOf f.type = 1) :
    ∃ m y, DataW.trod enc P w base spare held m f.type ((cs.drop f.offset).take 1) = some y := by
  obtain ⟨xs, k, _, _, _, hxl, hf⟩ := DataW.trod_struct he h
  have hlt : j < xs.length := by rw [hxl]; exact (Array.getElem?_eq_some_iff.1 hj).1
  refine ⟨k, xs[j], ?_⟩
  rw [← List.getElem?_eq_getElem hlt, ← hf j f hj, hc]

theorem take_one {cs : List Value} {o : Nat} {v : Value} (h : (cs.drop o).take 1 = [v]) : cs[o]? = some v := by
  have h1 : ((cs.drop o).take 1)[0]? = some v := by rw [h]; rfl
  simpa [List.getElem?_take, List.getElem?_drop] using h1

theorem str_field {e : TypeId} {fs : Array Field} {n : Nat} {cs : List Value} {d : DataW H × List MemPlace} (he : P.underlying e = some (.struct fs)) (h : DataW.trod enc P w base spare held n e cs = some d) {j : Nat} {f : Field} (hj : fs[j]? = some f) (hc : P.cellsOf f.type = 1)
    (hu : P.underlying f.type = some .string) : ∃ s : ByteArray, cs[f.offset]? = some (.string s) ∧ s.size ≤ maxLen := by
  obtain ⟨m, y, hy⟩ := field_cell he h hj hc
  obtain ⟨s, hs, _, hl⟩ := DataW.trod_string hu hy
  exact ⟨s, take_one hs, hl⟩

theorem bool_field {e : TypeId} {fs : Array Field} {n : Nat} {cs : List Value} {d : DataW H × List MemPlace} (he : P.underlying e = some (.struct fs)) (h : DataW.trod enc P w base spare held n e cs = some d) {j : Nat} {f : Field} (hj : fs[j]? = some f) (hc : P.cellsOf f.type = 1)
    (hu : P.underlying f.type = some .bool) : ∃ b : Bool, cs[f.offset]? = some (.bool b) := by
  obtain ⟨m, y, hy⟩ := field_cell he h hj hc
  obtain ⟨b, hs, _⟩ := DataW.trod_bool hu hy
  exact ⟨b, take_one hs⟩
end

theorem Trym.cells9 : Trym.prog.cellsOf 9 = 1 := by kernel_rfl
theorem Trym.cells4 : Trym.prog.cellsOf 4 = 1 := by kernel_rfl
theorem Trym.cells41 : Trym.prog.cellsOf 41 = 2 := by kernel_rfl
theorem Trym.cells37 : Trym.prog.cellsOf 37 = 5 := by kernel_rfl

/-- No cell that is met lies at a spot inside a value. -/
theorem spot_none {w : World} {x : Addr} {v : Value} (h : w.cell? x = some v) : x = ⟨x.block, x.off, none⟩ := by
  obtain ⟨b, o, s⟩ := x
  cases s with
  | none => rfl
  | some s =>
    simp only [World.cell?] at h
    split at h <;> simp_all

/-- From 'for every i < n there is an x' to one function. -/
theorem choose_lt' {α : Type} (d : α) {n : Nat} {p : Nat → α → Prop} (h : ∀ i, i < n → ∃ x, p i x) : ∃ f : Nat → α, ∀ i, i < n → p i (f i) := by
  refine ⟨fun i => if hi : i < n then Classical.choose (h i hi) else d, fun i hi => ?_⟩
  simp only [dif_pos hi]
  exact Classical.choose_spec (h i hi)

section
variable {H : Type} {enc : TypeId × Value → H} {w : World}

theorem recs_open {a : Option Addr} {len cap fuel : Nat} {x : DataW H × List MemPlace} (h : DataW.trod enc Trym.prog w 0 (fun _ => true) true fuel 22 [.slice a len cap] = some x) : ∃ I T, len ≤ maxLen ∧ RecRow w a len I T := by
  rcases open_slice Trym.underlying22 h with ⟨hcs, _⟩ | ⟨b, l, c, m, n, D, Pl, hcs, _, hl, hm, hmm, _, hx⟩
  · simp at hcs
    obtain ⟨rfl, rfl, rfl⟩ := hcs
    exact ⟨fun _ => ⟨#[]⟩, fun _ => ⟨#[]⟩, Nat.zero_le _, fun h => absurd h (Nat.lt_irrefl _)⟩
  · simp at hcs
    obtain ⟨rfl, rfl, rfl⟩ := hcs
    simp at hmm
    have each : ∀ i, i < len → ∃ q : ByteArray × ByteArray, w.cell? (b.add (i * 2)) = some (.string q.1) ∧ w.cell? (b.add (i * 2 + 1)) = some (.string q.2) ∧ q.1.size ≤ maxLen ∧ q.2.size ≤ maxLen := by
      intro i hi
      obtain ⟨cs', h1, h2⟩ := hx i (by omega)
      rw [Trym.cells41] at h1
      obtain ⟨_, hlen, hcell⟩ := World.cells?_some h1
      obtain ⟨s0, e0, g0⟩ := str_field Trym.underlying41 h2 (j := 0) rfl Trym.cells9 Trym.underlying9
      obtain ⟨s1, e1, g1⟩ := str_field Trym.underlying41 h2 (j := 1) rfl Trym.cells9 Trym.underlying9
      have k0 := hcell 0 (by omega)
      have k1 := hcell 1 (by omega)
      rw [add_add] at k0 k1
      exact ⟨(s0, s1), k0.trans e0, k1.trans e1, g0, g1⟩
    obtain ⟨q, hq⟩ := choose_lt' ⟨⟨#[]⟩, ⟨#[]⟩⟩ each
    refine ⟨fun i => (q i).1, fun i => (q i).2, by omega, fun h0 => ?_⟩
    have hb : b = ⟨b.block, b.off, none⟩ := spot_none (x := b) (by simpa [Addr.add] using (hq 0 h0).1)
    refine ⟨b.block, b.off, by rw [← hb], fun i hi => ?_⟩
    obtain ⟨x1, x2, x3, x4⟩ := hq i hi
    rw [hb, Addr.add_lit] at x1 x2
    exact ⟨x1, x2, x3, x4⟩

theorem pats_open {a : Option Addr} {len cap fuel : Nat} {x : DataW H × List MemPlace} (h : DataW.trod enc Trym.prog w 0 (fun _ => true) true fuel 23 [.slice a len cap] = some x) : ∃ Q, len ≤ maxLen ∧ PatRow w a len Q := by
  rcases open_slice Trym.underlying23 h with ⟨hcs, _⟩ | ⟨b, l, c, m, n, D, Pl, hcs, _, hl, hm, hmm, _, hx⟩
  · simp at hcs
    obtain ⟨rfl, rfl, rfl⟩ := hcs
    exact ⟨fun _ => ⟨⟨#[]⟩, ⟨#[]⟩, false, ⟨#[]⟩, ⟨#[]⟩⟩, Nat.zero_le _, fun h => absurd h (Nat.lt_irrefl _)⟩
  · simp at hcs
    obtain ⟨rfl, rfl, rfl⟩ := hcs
    simp at hmm
    have each : ∀ i, i < len → ∃ q : Pat, w.cell? (b.add (i * 5)) = some (.string q.id) ∧ w.cell? (b.add (i * 5 + 1)) = some (.string q.st) ∧ w.cell? (b.add (i * 5 + 2)) = some (.bool q.closed) ∧ w.cell? (b.add (i * 5 + 3)) = some (.string q.reason) ∧ w.cell? (b.add (i * 5 + 4)) = some (.string q.note) ∧
        q.id.size ≤ maxLen ∧ q.st.size ≤ maxLen ∧ q.reason.size ≤ maxLen ∧ q.note.size ≤ maxLen := by
      intro i hi
      obtain ⟨cs', h1, h2⟩ := hx i (by omega)
      rw [Trym.cells37] at h1
      obtain ⟨_, hlen, hcell⟩ := World.cells?_some h1
      obtain ⟨s0, e0, g0⟩ := str_field Trym.underlying37 h2 (j := 0) rfl Trym.cells9 Trym.underlying9
      obtain ⟨s1, e1, g1⟩ := str_field Trym.underlying37 h2 (j := 1) rfl Trym.cells9 Trym.underlying9
      obtain ⟨c2, e2⟩ := bool_field Trym.underlying37 h2 (j := 2) rfl Trym.cells4 Trym.underlying4
      obtain ⟨s3, e3, g3⟩ := str_field Trym.underlying37 h2 (j := 3) rfl Trym.cells9 Trym.underlying9
      obtain ⟨s4, e4, g4⟩ := str_field Trym.underlying37 h2 (j := 4) rfl Trym.cells9 Trym.underlying9
      have k0 := hcell 0 (by omega)
      have k1 := hcell 1 (by omega)
      have k2 := hcell 2 (by omega)
      have k3 := hcell 3 (by omega)
      have k4 := hcell 4 (by omega)
      rw [add_add] at k0 k1 k2 k3 k4
      exact ⟨⟨s0, s1, c2, s3, s4⟩, k0.trans e0, k1.trans e1, k2.trans e2, k3.trans e3, k4.trans e4, g0, g1, g3, g4⟩
    obtain ⟨q, hq⟩ := choose_lt' ⟨⟨#[]⟩, ⟨#[]⟩, false, ⟨#[]⟩, ⟨#[]⟩⟩ each
    refine ⟨q, by omega, fun h0 => ?_⟩
    have hb : b = ⟨b.block, b.off, none⟩ := spot_none (x := b) (by simpa [Addr.add] using (hq 0 h0).1)
    refine ⟨b.block, b.off, by rw [← hb], fun i hi => ?_⟩
    obtain ⟨x0, x1, x2, x3, x4, r⟩ := hq i hi
    rw [hb, Addr.add_lit] at x0 x1 x2 x3 x4
    exact ⟨x0, x1, x2, x3, x4, r⟩
end
end Go.Proofs.Qxb6609442aMods
