import Derived.Test.Qxb6604467aLaw4
import Derived.ProofKit
import Derived.OpenShut
import Derived.ShutString
import Derived.ChangeOld
import Derived.SliceStrings
import Derived.Deep.Slices
namespace Go.Proofs.Qxb6604467a.fnParamsLengthAndReadBack
open Go.ChangeShapes Go.WideShapes Go.ChangeAt Go.RowKit
open Go.ChangeMaps (open_string shut_string)
set_option linter.unusedVariables false

theorem own : ownKnob Try.prog.godebug = none := by kernel_rfl
theorem laidOut : laidOutB Try.prog = true := by kernel_rfl
theorem cells9 : Try.prog.cellsOf 9 = 1 := by kernel_rfl

/-- a slice of strings that came in, as the walk is told it -/
theorem open_strs {H : Type} {enc : TypeId × Value → H} {w : World} {a : Option Addr} {len cap : Nat} {fuel : Nat} {x : DataW H × List MemPlace} (h : DataW.trod enc Try.prog w 0 (fun _ => true) true fuel 41 [.slice a len cap] = some x) :
    ∃ (b off : Nat) (ss : List ByteArray), len = ss.length ∧ IsStrs w a b off ss ∧ (a = none → ss = [] ∧ cap = 0) ∧ (ss ≠ [] → b < w.heap.size) ∧ ss.length ≤ maxLen := by
  rcases Deep.open_slice1 Try.underlying41 cells9 h with ⟨hcs, _⟩ | ⟨a1, l, c, m, n, V, D, Pl, hcs, _, hl, hm, hmm, _, hx⟩
  · simp at hcs
    obtain ⟨rfl, rfl, rfl⟩ := hcs
    exact ⟨0, 0, [], rfl, ⟨by simp, by simp⟩, fun _ => ⟨rfl, rfl⟩, by simp, by simp⟩
  · simp at hcs
    obtain ⟨rfl, rfl, rfl⟩ := hcs
    simp only [if_true] at hmm
    subst hmm
    have each : ∀ i, i < len → ∃ q : ByteArray, w.cell? (a1.add i) = some (.string q) := by
      intro i hi
      obtain ⟨h1, h2⟩ := hx i (by omega)
      obtain ⟨s, e1, _, _⟩ := DataW.trod_string Try.underlying9 h2
      simp at e1
      exact ⟨s, by rw [h1, e1]⟩
    obtain ⟨q, hq⟩ := Deep.choose_lt (α := ByteArray) each
    have spot : 0 < len → a1.spot = none := fun hl0 => by
      have := World.cell?_spot (hq 0 hl0)
      simpa [Addr.add] using this
    refine ⟨a1.block, a1.off, (List.range len).map q, by simp, ⟨?_, ?_⟩, by simp, ?_, by simp; omega⟩
    · intro hne
      have hl0 : 0 < len := by
        rcases Nat.eq_zero_or_pos len with e | e
        · subst e; simp at hne
        · exact e
      have := spot hl0
      obtain ⟨bb, oo, sp⟩ := a1
      simp at this
      subst this
      rfl
    · intro i hi
      have hi' : i < len := by simpa using hi
      have hsp := spot (by omega)
      obtain ⟨bb, oo, sp⟩ := a1
      simp at hsp
      subst hsp
      have g0 := hq i hi'
      rw [add_plain] at g0
      simp only [List.getElem_map, List.getElem_range]
      exact g0
    · intro hne
      have hl0 : 0 < len := by
        rcases Nat.eq_zero_or_pos len with e | e
        · subst e; simp at hne
        · exact e
      have h1 := World.block_lt_of_cell? w _ (hq 0 hl0)
      simpa [Addr.add] using h1

set_option maxRecDepth 100000 in
theorem lifted (os : Os) (started : os.Started) (H : Type) (enc : TypeId × Value → H) :
    ReturnsInHanded {} Try.checked os 5 .any (Rows.fnParamsLengthAndReadBackSpec.pre6 enc Try.prog Try.f5 Rows.fnParamsLengthAndReadBackRow.domain false) (Rows.fnParamsLengthAndReadBackSpec.post enc Try.prog Try.f5 false true false false) := by
  refine returnsInHanded_of_change (C := Try.checked) own started (by kernel_rfl) Try.func5
    (ChangeSpec.witness6 (enc := enc) (C := Try.checked) false ⟨#[], #[.string ByteArray.empty, .slice none 0 0], []⟩ 8 (by kernel_rfl) (by kernel_rfl) (by kernel_rfl) (by kernel_rfl)) ?_
  intro W base args ds gs before hval0 hW hcnd _
  have hval : ∀ (j : Nat) t v, Try.f5.params[j]? = some t → args[j]? = some v → Value.okWide Try.prog W .any base t v := hval0
  have hW' := hW
  obtain ⟨p, q, hA0, hV, rfl, hfz, hnd⟩ := hW
  have hA : DataW.TrodAll enc Try.prog W 0 (fun _ => true) true Try.f5.params.toList args.toList ds p := hA0
  rw [Try.params5] at hA hval
  obtain ⟨v0, vs0, d0, ds0, p0, q0, hargs, rfl, rfl, h0, r0⟩ := trodAll_cons hA
  obtain ⟨v1, vs1, d1, ds1, p1, q1, rfl, rfl, rfl, h1, r1⟩ := trodAll_cons r0
  obtain ⟨rfl, rfl, rfl⟩ := trodAll_nil r1
  obtain rfl : args = #[v0, v1] := by cases args; simp_all
  obtain ⟨rfl, rfl⟩ := trodVars_none hV
  obtain ⟨a0, rfl, rfl, rfl, w0⟩ := open_string Try.underlying9 (hval 0 9 v0 rfl rfl) h0
  obtain ⟨a1, len1, cap1, rfl⟩ := okWide_slice Try.underlying41 (hval 1 41 v1 rfl rfl)
  have k1 := h1
  have lt1 : ∀ x ∈ p1, x.block < W.heap.size := by obtain ⟨m, hm⟩ := k1; exact DataW.trod_lt m _ _ _ hm
  obtain ⟨f1, hf1⟩ := h1
  obtain ⟨b1, off1, ops1, rfl, i1, n1, l1, m1⟩ := open_strs (by simpa [Value.cells] using hf1)
  clear hA0 hval0
  refine (law4_walk a0 a1 b1 off1 cap1 ops1 W i1 n1 l1 w0 m1).mono fun e W' ⟨he, bel⟩ => ?_
  subst he
  exact ⟨_, rfl, _, _, _, [], _, [], hW', trodAll_mk1 (shut_bool Try.underlying4 _), (trodAll_cons_mk (shut_string Try.underlying9 w0) (trodAll_cons_mk (Below.trod laidOut (by kernel_rfl) (of_decide_eq_true (by kernel_rfl)) k1 bel lt1) trodAll_mk0)), rfl, bel.frame _, fun h => by cases h⟩

theorem over : Rows.fnParamsLengthAndReadBackRow.holds Try.pinned (OpenSpec.ofChange Rows.fnParamsLengthAndReadBackSpec) :=
  OpenClaim.holds_of_wide 5 Try.f5 rfl rfl rfl rfl rfl rfl rfl ⟨rfl, rfl, rfl, rfl, rfl⟩ rfl rfl rfl rfl rfl (by kernel_rfl) Try.func5 (by kernel_rfl)
    (of_decide_eq_true (by kernel_rfl)) (by unfold Func.isWrapper; first | (rw [if_pos (by decide +kernel)]; kernel_rfl) | (rw [if_neg (by decide +kernel)]; exact ⟨rfl, rfl⟩))
    (fun os started H enc _ => lifted os started H enc)

/-- THE STATEMENT -/
theorem proved : Rows.FnParamsLengthAndReadBackSaid := over
#print axioms proved
end Go.Proofs.Qxb6604467a.fnParamsLengthAndReadBack
