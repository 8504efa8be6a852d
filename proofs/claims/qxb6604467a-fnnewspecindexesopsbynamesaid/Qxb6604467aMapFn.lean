import Derived.Test.Qxb6604467aKit
import Derived.Maps.OwnSet
namespace Go.Proofs.Qxb6604467a
open Go.RowKit
open Go.Maps (Keyed Tidy)
set_option linter.unusedVariables false

/-! A map keyed by strings, told as a function on its keys; its elements are the raw values -/

def rawElem (v : Value) : Option (DataW Value × List MemPlace) := some (.held v, [])

theorem rawElem_inv {v u : Value} {ps : List MemPlace} (h : rawElem v = some (.held u, ps)) : v = u := by
  unfold rawElem at h
  simp only [Option.some.injEq, Prod.mk.injEq, DataW.held.injEq] at h
  exact h.1

def strKey (s : ByteArray) : Lit := .string s.data.toList

theorem strKey_inj {s s' : ByteArray} (h : strKey s = strKey s') : s = s' := by
  unfold strKey at h
  have h1 : s.data.toList = s'.data.toList := by simpa using h
  have h2 : s.data = s'.data := Array.toList_inj.1 h1
  cases s; cases s'; simp_all

def fput (f : ByteArray → Option Value) (s : ByteArray) (v : Value) : ByteArray → Option Value := fun s' => if s' = s then some v else f s'
theorem fput_same (f : ByteArray → Option Value) (s : ByteArray) (v : Value) : fput f s v s = some v := by simp [fput]
theorem fput_other (f : ByteArray → Option Value) {s s' : ByteArray} (v : Value) (h : s' ≠ s) : fput f s v s' = f s' := by simp [fput, h]

/-- block b is a map of at most n entries, m in truth, that holds at each key s what f s says -/
def MapFn (P : Program) (K : TypeId) (w : World) (b n m : Nat) (f : ByteArray → Option Value) : Prop :=
  ∃ D : DataW Value, w.ownsMap P K rawElem b n D ∧ Tidy D ∧ Maps.size D = m ∧ ∀ s : ByteArray, Maps.has D (strKey s) = (f s).isSome ∧ ∀ z : Value, D.atKey (strKey s) (.held z) = .held ((f s).getD z)

section
variable {P : Program} {K : TypeId} {w w' : World} {b n m : Nat} {f : ByteArray → Option Value}

theorem MapFn.made (P : Program) (K : TypeId) (w : World) : MapFn P K (w.alloc (.map #[] 0)) w.heap.size 0 0 (fun _ => none) :=
  ⟨.map [], World.ownsMap_made _ _ _ _, Maps.tidy_empty, rfl, fun s => ⟨rfl, fun z => rfl⟩⟩

theorem MapFn.lt (h : MapFn P K w b n m f) : b < w.heap.size := by
  obtain ⟨D, h1, _⟩ := h
  exact h1.lt

theorem MapFn.mono (h : MapFn P K w b n m f) {n' : Nat} (hn : n ≤ n') : MapFn P K w b n' m f := by
  obtain ⟨D, h1, h2⟩ := h
  exact ⟨D, h1.mono hn, h2⟩

theorem MapFn.of_block (h : MapFn P K w b n m f) (e : w'.heap[b]? = w.heap[b]?) : MapFn P K w' b n m f := by
  obtain ⟨D, ⟨es, clock, hb, r⟩, h2⟩ := h
  exact ⟨D, ⟨es, clock, e.trans hb, r⟩, h2⟩

theorem MapFn.le (h : MapFn P K w b n m f) : m ≤ n := by
  obtain ⟨D, h1, _, h3, _⟩ := h
  rw [← h3]
  exact h1.size_le

theorem MapFn.look (hk : P.underlying K = some .string) (h : MapFn P K w b n m f) {t E : TypeId} (ht : P.underlying t = some (.map K E)) {z : Value} (hz : (zeroValue E).run P w = .ok z w) {s : ByteArray} (hs : s.size ≤ maxLen) :
    (Instr.lookup t (.map (some b)) (.string s) false).run P w = .ok ((f s).getD z) w := by
  obtain ⟨D, h1, _, _, h4⟩ := h
  obtain ⟨v, ps, hrun, hv⟩ := h1.lookup (Maps.string_keyed hk) ht hz (zd := .held z) (zp := []) rfl (WideMaps.keyOf_string_mk hk hs)
  have e := (h4 s).2 z
  unfold strKey at e
  rw [e] at hv
  rw [hrun, rawElem_inv hv]

theorem MapFn.look_ok (hk : P.underlying K = some .string) (h : MapFn P K w b n m f) {t E : TypeId} (ht : P.underlying t = some (.map K E)) {z : Value} (hz : (zeroValue E).run P w = .ok z w) {s : ByteArray} (hs : s.size ≤ maxLen) :
    (Instr.lookup t (.map (some b)) (.string s) true).run P w = .ok (.tuple #[(f s).getD z, .bool (f s).isSome]) w := by
  obtain ⟨D, h1, _, _, h4⟩ := h
  obtain ⟨v, ps, hrun, hv⟩ := h1.look_ok (Maps.string_keyed hk) ht hz (zd := .held z) (zp := []) rfl (WideMaps.keyOf_string_mk hk hs)
  have e := (h4 s).2 z
  have e2 := (h4 s).1
  unfold strKey at e e2
  rw [e] at hv
  rw [hrun, rawElem_inv hv, e2]

theorem MapFn.update (hk : P.underlying K = some .string) (h : MapFn P K w b n m f) {t E : TypeId} (ht : P.underlying t = some (.map K E)) (hn : n < maxLen) {s : ByteArray} (hs : s.size ≤ maxLen) (v : Value) :
    ∃ w', (Instr.mapUpdate t (.map (some b)) (.string s) v).run P w = .ok () w' ∧ MapFn P K w' b (n + 1) (if (f s).isSome then m else m + 1) (fput f s v) ∧ w.grownBy w' (some b) := by
  obtain ⟨D, h1, h2, h3, h4⟩ := h
  obtain ⟨w', hrun, hown, hg⟩ := h1.update (Maps.string_keyed hk) ht hn (WideMaps.keyOf_string_mk hk hs) (val := v) (d := .held v) (ps := []) rfl
  refine ⟨w', hrun, ⟨_, hown, h2.put (by trivial) _, ?_, fun s' => ?_⟩, hg⟩
  · rw [Maps.size_put h2, ← h3]
    have e := (h4 s).1
    unfold strKey at e
    rw [e]
  · by_cases e : s' = s
    · subst e
      refine ⟨?_, fun z => ?_⟩
      · rw [fput_same]
        exact Maps.has_put_same h2.isMap (by trivial) _
      · rw [fput_same]
        exact Maps.atKey_put_same h2.isMap (by trivial) _ _
    · have hne : strKey s' ≠ strKey s := fun h => e (strKey_inj h)
      rw [fput_other f v e]
      refine ⟨?_, fun z => ?_⟩
      · rw [← (h4 s').1]
        exact Maps.has_put_other hne _
      · rw [← (h4 s').2 z]
        exact Maps.atKey_put_other hne _ _

theorem MapFn.len (h : MapFn P K w b n m f) {t E : TypeId} (ht : P.underlying t = some (.map K E)) (ty : TypeId) : (Builtin.len_ #[t] ty #[.map (some b)]).run P w = .ok (.int .i64 m) w := by
  obtain ⟨D, h1, _, h3, _⟩ := h
  rw [← h3]
  exact h1.len ht ty
end

section
variable {P : Program} {K : TypeId} (w : World) {ops : Array Oper} {rest : List Oper} {o : Oper} {a : Act} {Q : Exit → Act → World → Prop}

theorem wpList_lookup_fn (hg : o.guard = none) (mo x : Operand) (t : TypeId) (hop : o.op = Op.lookup t mo x false) (hk : P.underlying K = some .string) (E : TypeId) (ht : P.underlying t = some (.map K E)) (z : Value) (hz : (zeroValue E).run P w = .ok z w)
    (b n m : Nat) (f : ByteArray → Option Value) (hm : a.eval mo = .map (some b)) (hown : MapFn P K w b n m f) (s : ByteArray) (hx : a.eval x = .string s) (hs : s.size ≤ maxLen)
    (hK : wpList P ops Q rest (a.put o.dst ((f s).getD z)) w) :
    wpList P ops Q (o :: rest) a w := by
  refine wpList_plain hg fun K' hK' => ?_
  have hrun := hown.look hk ht hz hs
  unfold Oper.wp
  simp [execOp, hop, hm, hx, hrun, Result.andThen]
  exact hK' _ _ hK

theorem wpList_lookup_fn_ok (hg : o.guard = none) (mo x : Operand) (t : TypeId) (hop : o.op = Op.lookup t mo x true) (hk : P.underlying K = some .string) (E : TypeId) (ht : P.underlying t = some (.map K E)) (z : Value) (hz : (zeroValue E).run P w = .ok z w)
    (b n m : Nat) (f : ByteArray → Option Value) (hm : a.eval mo = .map (some b)) (hown : MapFn P K w b n m f) (s : ByteArray) (hx : a.eval x = .string s) (hs : s.size ≤ maxLen)
    (hK : wpList P ops Q rest (a.put o.dst (.tuple #[(f s).getD z, .bool (f s).isSome])) w) :
    wpList P ops Q (o :: rest) a w := by
  refine wpList_plain hg fun K' hK' => ?_
  have hrun := hown.look_ok hk ht hz hs
  unfold Oper.wp
  simp [execOp, hop, hm, hx, hrun, Result.andThen]
  exact hK' _ _ hK

theorem wpList_update_fn (hg : o.guard = none) (mo x vo : Operand) (t : TypeId) (hop : o.op = Op.mapUpdate t mo x vo) (hk : P.underlying K = some .string) (E : TypeId) (ht : P.underlying t = some (.map K E))
    (b n m : Nat) (f : ByteArray → Option Value) (hm : a.eval mo = .map (some b)) (hown : MapFn P K w b n m f) (hn : n < maxLen) (s : ByteArray) (v : Value) (hx : a.eval x = .string s) (hv : a.eval vo = v) (hs : s.size ≤ maxLen)
    (hK : ∀ w', MapFn P K w' b (n + 1) (if (f s).isSome then m else m + 1) (fput f s v) → w.grownBy w' (some b) → wpList P ops Q rest (a.put o.dst undef) w') :
    wpList P ops Q (o :: rest) a w := by
  refine wpList_plain hg fun K' hK' => ?_
  obtain ⟨w', hrun, r1, r2⟩ := hown.update hk ht hn hs v
  unfold Oper.wp
  simp [execOp, hop, hm, hx, hv, hrun, Result.andThen]
  exact hK' _ _ (hK w' r1 r2)
end
end Go.Proofs.Qxb6604467a
