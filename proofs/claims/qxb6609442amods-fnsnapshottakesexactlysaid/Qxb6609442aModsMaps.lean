/-
  MAPS KEYED BY STRINGS, OF WHATEVER ELEMENTS, THAT THE CALL ITSELF MAKES AND NEVER HANDS OUT: the kit's 'World.ownsMap' with every element read as itself (a token over 'Value'), told as a plain function from keys to values.
-/
import Derived.Maps.RangeWalk
import Derived.Maps.AppendAt
import Derived.StringKeys
namespace Go.Proofs.Qxb6609442aMods
open Go.Maps (Keyed)

/-- Every element reads as itself. -/
def tokElem (v : Value) : Option (DataW Value × List MemPlace) := some (.held v, [])

/-- What a string reads as, as a key. -/
def keyL (s : ByteArray) : Lit := .string s.data.toList

theorem keyL_inj {s t : ByteArray} (h : keyL s = keyL t) : s = t := by
  cases s
  cases t
  simp [keyL] at h
  simp [h]

theorem keyL_ne {s t : ByteArray} (h : s ≠ t) : keyL s ≠ keyL t := fun e => h (keyL_inj e)

theorem keyL_isKey (s : ByteArray) : WideAt.IsKeyLit (keyL s) := trivial

/-- Block b is a map of at most n entries; f says what it holds. -/
def StrMap (P : Program) (k : TypeId) (w : World) (b n : Nat) (f : ByteArray → Option Value) : Prop :=
  ∃ D : DataW Value, w.ownsMap P k tokElem b n D ∧ ∀ s : ByteArray, Maps.has D (keyL s) = (f s).isSome ∧ ∀ v, f s = some v → ∀ zd, D.atKey (keyL s) zd = .held v

/-- The function with one value turned. -/
def upd (f : ByteArray → Option Value) (s : ByteArray) (v : Value) : ByteArray → Option Value := fun t => if t = s then some v else f t

theorem upd_same (f : ByteArray → Option Value) (s : ByteArray) (v : Value) : upd f s v s = some v := by simp [upd]
theorem upd_other (f : ByteArray → Option Value) {s t : ByteArray} (v : Value) (h : t ≠ s) : upd f s v t = f t := by simp [upd, h]

section
variable {P : Program} {k : TypeId} {w : World} {b n : Nat} {f : ByteArray → Option Value}

theorem StrMap.made (w : World) (P : Program) (k : TypeId) : StrMap P k (w.alloc (.map #[] 0)) w.heap.size 0 (fun _ => none) :=
  ⟨_, World.ownsMap_made w P k tokElem, fun s => ⟨rfl, fun v h => by cases h⟩⟩

theorem StrMap.lt (h : StrMap P k w b n f) : b < w.heap.size := by
  obtain ⟨D, hown, _⟩ := h
  exact hown.lt

theorem StrMap.mono (h : StrMap P k w b n f) {m : Nat} (hm : n ≤ m) : StrMap P k w b m f := by
  obtain ⟨D, hown, hf⟩ := h
  exact ⟨D, hown.mono hm, hf⟩

/-- The block as it was: the map as it was. -/
theorem StrMap.of_block {w' : World} (h : StrMap P k w b n f) (e : w'.heap[b]? = w.heap[b]?) : StrMap P k w' b n f := by
  obtain ⟨D, ⟨es, clock, hb, r⟩, hf⟩ := h
  exact ⟨D, ⟨es, clock, e.trans hb, r⟩, hf⟩

theorem StrMap.kept {w' : World} {row : Option Nat} (h : StrMap P k w b n f) (hg : w.grownBy w' row) (hne : some b ≠ row) : StrMap P k w' b n f := h.of_block (hg.block b h.lt hne)

/-- 'm[k]' | 'v, ok := m[k]'. -/
theorem StrMap.look (h : StrMap P k w b n f) (hk : P.underlying k = some .string) {t e : TypeId} (ht : P.underlying t = some (.map k e)) {z : Value} (hz : (zeroValue e).run P w = .ok z w) {s : ByteArray} (hs : s.size ≤ maxLen) :
    (Instr.lookup t (.map (some b)) (.string s) false).run P w = .ok ((f s).getD z) w ∧ (Instr.lookup t (.map (some b)) (.string s) true).run P w = .ok (.tuple #[(f s).getD z, .bool (f s).isSome]) w := by
  obtain ⟨D, hown, hf⟩ := h
  obtain ⟨h1, h2⟩ := hf s
  have K := Maps.string_keyed hk
  have hkey := Go.WideMaps.keyOf_string_mk hk hs
  have val : ∀ v ps, tokElem v = some (D.atKey (keyL s) (.held z), ps) → v = (f s).getD z := by
    intro v ps hv
    simp only [tokElem, Option.some.injEq, Prod.mk.injEq] at hv
    cases hfs : f s with
    | none =>
      rw [hfs] at h1
      rw [Maps.atKey_of_not_has (by simpa using h1)] at hv
      have := hv.1
      simpa using this
    | some u =>
      rw [h2 u hfs] at hv
      have := hv.1
      simpa using this
  constructor
  · obtain ⟨v, ps, hrun, hv⟩ := hown.lookup K ht hz (zd := .held z) (zp := []) rfl hkey
    rw [← val v ps hv]
    exact hrun
  · obtain ⟨v, ps, hrun, hv⟩ := hown.look_ok K ht hz (zd := .held z) (zp := []) rfl hkey
    rw [← val v ps hv, ← h1]
    exact hrun

/-- 'm[k] = v'. -/
theorem StrMap.store (h : StrMap P k w b n f) (hk : P.underlying k = some .string) {t e : TypeId} (ht : P.underlying t = some (.map k e)) (hn : n < maxLen) {s : ByteArray} (hs : s.size ≤ maxLen) (v : Value) :
    ∃ w', (Instr.mapUpdate t (.map (some b)) (.string s) v).run P w = .ok () w' ∧ StrMap P k w' b (n + 1) (upd f s v) ∧ w.grownBy w' (some b) ∧ w'.heap.size = w.heap.size := by
  obtain ⟨D, hown, hf⟩ := h
  obtain ⟨w', hrun, hown', hturn⟩ := hown.store (Maps.string_keyed hk) ht hn (Go.WideMaps.keyOf_string_mk hk hs) (d := .held v) (ps := []) rfl
  refine ⟨w', hrun, ⟨_, hown', fun u => ?_⟩, hturn.grown, ?_⟩
  · by_cases hu : u = s
    · subst hu
      refine ⟨by rw [upd_same]; exact Maps.has_put_same hown.isMap (keyL_isKey u) _, fun v' hv' zd => ?_⟩
      rw [upd_same] at hv'
      cases hv'
      exact Maps.atKey_put_same hown.isMap (keyL_isKey u) _ _
    · rw [upd_other f v hu]
      refine ⟨by rw [← (hf u).1]; exact Maps.has_put_other (keyL_ne hu) _, fun v' hv' zd => ?_⟩
      rw [← (hf u).2 v' hv' zd]
      exact Maps.atKey_put_other (keyL_ne hu) _ _
  · obtain ⟨_, _, _, _, _, rfl⟩ := hturn
    simp [ChangeMaps.setBlock]
end

/-! ### 'for k, v := range m' -/

/-- The loop over the map is under way: the keys of 'left' are still to come; cnt: how many. -/
def StrRanges (P : Program) (k : TypeId) (w : World) (b r n : Nat) (f : ByteArray → Option Value) (left : ByteArray → Bool) (cnt : Nat) : Prop :=
  ∃ (D : DataW Value) (L : Lit → Bool), w.ranges P k tokElem b r n D L cnt ∧ (∀ s : ByteArray, Maps.has D (keyL s) = (f s).isSome ∧ ∀ v, f s = some v → ∀ zd, D.atKey (keyL s) zd = .held v) ∧ ∀ s, L (keyL s) = left s

section
variable {P : Program} {k : TypeId} {w : World} {b r n cnt : Nat} {f : ByteArray → Option Value} {left : ByteArray → Bool}

theorem StrRanges.left_eq (h : StrRanges P k w b r n f left cnt) : w.rangeLeft b r = cnt := by
  obtain ⟨D, L, hr, _⟩ := h
  exact hr.left_eq

theorem StrRanges.owns (h : StrRanges P k w b r n f left cnt) : StrMap P k w b n f := by
  obtain ⟨D, L, hr, hf, _⟩ := h
  exact ⟨D, hr.owns, hf⟩

theorem StrRanges.lt (h : StrRanges P k w b r n f left cnt) : r < w.heap.size := by
  obtain ⟨D, L, hr, _⟩ := h
  exact hr.lt

theorem StrRanges.kept {w' : World} (h : StrRanges P k w b r n f left cnt) (hb : w'.heap[b]? = w.heap[b]?) (hr : w'.heap[r]? = w.heap[r]?) : StrRanges P k w' b r n f left cnt := by
  obtain ⟨D, L, ⟨es, clock, since, seen, c0, h1, F, hs, hD, h2, rest⟩, hf, hl⟩ := h
  exact ⟨D, L, ⟨es, clock, since, seen, c0, hb.trans h1, F, hs, hD, hr.trans h2, rest⟩, hf, hl⟩

/-- What reads as a key of a string's type IS that string. -/
theorem keyOf_string_inv (hk : P.underlying k = some .string) {key : Value} {kl : Lit} (h : keyOf P k key = some kl) : ∃ s : ByteArray, key = .string s ∧ kl = keyL s ∧ s.size ≤ maxLen := by
  cases key <;> simp [keyOf, hk, mapKey] at h
  obtain ⟨hs, rfl⟩ := h
  exact ⟨_, rfl, rfl, hs⟩

variable (w) {ops : Array Oper} {rest : List Oper} {o : Oper} {a : Act} {Q : Exit → Act → World → Prop}

/-- 'range m' at the operation. -/
theorem wpList_range_str (hg : o.guard = none) (m : Operand) (t : TypeId) (hop : o.op = Op.range t m) (e : TypeId) (hk : P.underlying k = some .string) (ht : P.underlying t = some (.map k e)) (b n : Nat) (f : ByteArray → Option Value)
    (hm : a.eval m = .map (some b)) (hown : StrMap P k w b n f)
    (hK : ∀ w', (∃ cnt, StrRanges P k w' b w.heap.size n f (fun s => (f s).isSome) cnt) → w.grownBy w' none → w'.heap.size = w.heap.size + 1 → wpList P ops Q rest (a.put o.dst (.pointer (some ⟨w.heap.size, 0, none⟩))) w') :
    wpList P ops Q (o :: rest) a w := by
  obtain ⟨D, ho, hf⟩ := hown
  exact wpList_range_own w hg m t hop k e (Maps.string_keyed hk) ht tokElem b n D hm ho fun w' hr hg' hs' => hK w' ⟨_, D, _, hr, hf, fun s => (hf s).1⟩ hg' hs'

/-- The step at the operation. -/
theorem wpList_next_str (hg : o.guard = none) (it : Operand) (hop : o.op = Op.next it false) (hk : P.underlying k = some .string) (b r n : Nat) (f : ByteArray → Option Value) (left : ByteArray → Bool) (cnt : Nat)
    (hit : a.eval it = .pointer (some ⟨r, 0, none⟩)) (h : StrRanges P k w b r n f left cnt)
    (hDone : (∀ s, left s = false) → wpList P ops Q rest (a.put o.dst (.tuple #[.bool false])) w)
    (hMore : ∀ (s : ByteArray) (v : Value) (w' : World) (cnt' : Nat), s.size ≤ maxLen → left s = true → f s = some v → StrRanges P k w' b r n f (fun t => left t && !decide (t = s)) cnt' → cnt' < cnt →
      w.grownBy w' (some r) → w'.heap.size = w.heap.size → (Instr.entry (.pointer (some ⟨r, 0, none⟩))).run P w' = .ok (.tuple #[.string s, v]) w' → wpList P ops Q rest (a.put o.dst (.tuple #[.bool true, .string s, v])) w') :
    wpList P ops Q (o :: rest) a w := by
  obtain ⟨D, L, hr, hf, hl⟩ := h
  refine wpList_plain hg fun K' hK' => ?_
  unfold Oper.wp
  rcases hr.next (Maps.string_keyed hk) o.type with ⟨h0, hl0, hrun⟩ | ⟨key, v, kl, y, w', cnt', hkey, hlk, hv, hat, hrun, hrg, hlt, hgr, hsz, hen⟩
  · simp [execOp, hop, hit, hrun, Result.andThen]
    exact hK' _ _ (hDone fun s => by rw [← hl s]; exact hl0 _)
  · obtain ⟨s, rfl, rfl, hs⟩ := keyOf_string_inv hk hkey
    have hfs : f s = some v := by
      have hhas : Maps.has D (keyL s) = true := Maps.has_true_of_atKey hat
      rw [(hf s).1] at hhas
      obtain ⟨u, hu⟩ := Option.isSome_iff_exists.1 hhas
      have e1 := (hf s).2 u hu (.held v)
      rw [hat] at e1
      simp only [tokElem, Option.some.injEq] at hv
      rw [← hv] at e1
      simp only [DataW.held.injEq] at e1
      rw [hu, e1]
    simp [execOp, hop, hit, hrun, Result.andThen]
    refine hK' _ _ (hMore s v w' cnt' hs (by rw [← hl s]; exact hlk) hfs ⟨D, _, hrg, hf, fun t => ?_⟩ hlt hgr hsz hen)
    show (L (keyL t) && !(keyL t).sameKey (keyL s)) = _
    rw [hl t]
    by_cases e : t = s
    · subst e
      rw [WideAt.sameKey_self (keyL_isKey t)]
      simp
    · rw [Maps.sameKey_ne (keyL_ne e)]
      simp [e]
end
end Go.Proofs.Qxb6609442aMods
