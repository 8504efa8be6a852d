import Derived.Test.Qxb6604512aName
import Derived.ProofKit
import Derived.OpenShut
import Derived.ChangeOld
import Derived.SliceStrings
import Derived.Deep.Slices
import Derived.Deep.SlicePairs
namespace Go.Proofs.Qxb6604512a
open Go.ChangeShapes Go.WideShapes Go.ChangeAt Go.RowKit
set_option linter.unusedVariables false

theorem cells5 : Try.prog.cellsOf 5 = 1 := by kernel_rfl
theorem cells24 : Try.prog.cellsOf 24 = 1 := by kernel_rfl
theorem cells45 : Try.prog.cellsOf 45 = 1 := by kernel_rfl
theorem cells23 : Try.prog.cellsOf 23 = 1 := by kernel_rfl
theorem cells37 : Try.prog.cellsOf 37 = 1 := by kernel_rfl
theorem cells55 : Try.prog.cellsOf 55 = 2 := by kernel_rfl
theorem cells41 : Try.prog.cellsOf 41 = 2 := by kernel_rfl
theorem cells39 : Try.prog.cellsOf 39 = 2 := by kernel_rfl

theorem wf_u8 {n : Int} (h : (Lit.int .u8 n).wf = true) : ∃ x : UInt8, n = (x.toNat : Int) := by
  simp [Lit.wf, IntKind.min, IntKind.max, IntKind.bits, IntKind.signed] at h
  refine ⟨UInt8.ofNat n.toNat, ?_⟩
  rw [UInt8.toNat_ofNat']
  omega

theorem wf_u64 {n : Int} (h : (Lit.int .u64 n).wf = true) : ∃ x : Nat, x < 18446744073709551616 ∧ n = (x : Int) := by
  simp [Lit.wf, IntKind.min, IntKind.max, IntKind.bits, IntKind.signed] at h
  exact ⟨n.toNat, by omega, by omega⟩

section
variable {H : Type} {enc : TypeId × Value → H} {w : World} {v : Value} {fuel : Nat} {x : DataW H × List MemPlace}

theorem open_bytes (h : DataW.trod enc Try.prog w 0 (fun _ => true) true fuel 45 [v] = some x) :
    ∃ l : List UInt8, RB (fun b => b < w.heap.size) w v l ∧ l.length ≤ maxLen := by
  rcases Deep.open_slice1 Try.underlying45 cells5 h with ⟨hcs, _⟩ | ⟨a1, len, cap, m, n, V, D, Pl, hcs, _, hl, hm, hmm, _, hx⟩
  · simp at hcs
    subst hcs
    exact ⟨[], ⟨none, 0, rfl, by simp, by simp⟩, by simp⟩
  · simp at hcs
    subst hcs
    simp only [if_true] at hmm
    subst hmm
    have each : ∀ i, i < len → ∃ q : UInt8, w.cell? (a1.add i) = some (.int .u8 (q.toNat : Int)) := by
      intro i hi
      obtain ⟨h1, h2⟩ := hx i (by omega)
      obtain ⟨s, e1, _, hw⟩ := DataW.trod_int Try.underlying5 h2
      simp at e1
      obtain ⟨q, rfl⟩ := wf_u8 hw
      exact ⟨q, by rw [h1, e1]⟩
    obtain ⟨q, hq⟩ := Deep.choose_lt (α := UInt8) each
    refine ⟨(List.range len).map q, ⟨some a1, m, by simp, by simp, fun hne => ?_⟩, by simp; omega⟩
    have hl0 : 0 < len := by
      rcases Nat.eq_zero_or_pos len with e | e
      · subst e; simp at hne
      · exact e
    have hsp := World.cell?_spot (hq 0 hl0)
    have hlt := World.block_lt_of_cell? w _ (hq 0 hl0)
    obtain ⟨bb, oo, sp⟩ := a1
    obtain rfl : sp = none := by simpa [Addr.add] using hsp
    refine ⟨bb, oo, rfl, by simpa [Addr.add] using hlt, fun i hi => ?_⟩
    have hi' : i < len := by simpa using hi
    have g0 := hq i hi'
    rw [add_plain] at g0
    simp only [List.getElem_map, List.getElem_range]
    exact g0

theorem open_comps (h : DataW.trod enc Try.prog w 0 (fun _ => true) true fuel 23 [v] = some x) :
    ∃ cs : List (Nat × List UInt8), RC (fun b => b < w.heap.size) w v cs := by
  have hu := Try.underlying55
  rcases Deep.open_slice_pairs Try.underlying23 hu cells55 rfl rfl cells24 cells45 h with ⟨hcs, _⟩ | ⟨a1, len, cap, m, n, V0, V1, D0, D1, P0, P1, hcs, _, hl, hm, hmm, _, hx⟩
  · simp at hcs
    subst hcs
    exact ⟨[], none, 0, rfl, by simp, by simp⟩
  · simp at hcs
    subst hcs
    simp only [if_true] at hmm
    subst hmm
    have each : ∀ i, i < len → ∃ q : Nat × List UInt8, q.1 < 18446744073709551616 ∧ w.cell? (a1.add (i * 2)) = some (.int .u64 (q.1 : Int)) ∧ ∃ vv, w.cell? (a1.add (i * 2 + 1)) = some vv ∧ RB (fun b => b < w.heap.size) w vv q.2 := by
      intro i hi
      obtain ⟨h1, h2, h3, h4⟩ := hx i (by omega)
      obtain ⟨z, e0, _, hw⟩ := DataW.trod_int Try.underlying24 h3
      simp at e0
      obtain ⟨k, hk, rfl⟩ := wf_u64 hw
      obtain ⟨l, hl, _⟩ := open_bytes h4
      exact ⟨(k, l), hk, by rw [h1, e0], _, h2, hl⟩
    obtain ⟨q, hq⟩ := Deep.choose_lt each
    refine ⟨(List.range len).map q, some a1, m, by simp, by simp, fun hne => ?_⟩
    have hl0 : 0 < len := by
      rcases Nat.eq_zero_or_pos len with e | e
      · subst e; simp at hne
      · exact e
    have hsp := World.cell?_spot (hq 0 hl0).2.1
    have hlt := World.block_lt_of_cell? w _ (hq 0 hl0).2.1
    obtain ⟨bb, oo, sp⟩ := a1
    obtain rfl : sp = none := by simpa [Addr.add] using hsp
    refine ⟨bb, oo, rfl, by simpa [Addr.add] using hlt, fun i hi => ?_⟩
    have hi' : i < len := by simpa using hi
    obtain ⟨g0, g1, vv, g2, g3⟩ := hq i hi'
    rw [add_plain] at g1 g2
    simp only [List.getElem_map, List.getElem_range]
    exact ⟨g0, g1, vv, by rw [Nat.add_assoc]; exact g2, g3⟩

theorem open_pairs (h : DataW.trod enc Try.prog w 0 (fun _ => true) true fuel 37 [v] = some x) :
    ∃ ps : List (Nat × Nat), RP (fun b => b < w.heap.size) w v ps := by
  have hu := Try.underlying41
  rcases Deep.open_slice_pairs Try.underlying37 hu cells41 rfl rfl cells24 cells24 h with ⟨hcs, _⟩ | ⟨a1, len, cap, m, n, V0, V1, D0, D1, P0, P1, hcs, _, hl, hm, hmm, _, hx⟩
  · simp at hcs
    subst hcs
    exact ⟨[], none, 0, rfl, by simp, by simp⟩
  · simp at hcs
    subst hcs
    simp only [if_true] at hmm
    subst hmm
    have each : ∀ i, i < len → ∃ q : Nat × Nat, q.1 < 18446744073709551616 ∧ q.2 < 18446744073709551616 ∧ w.cell? (a1.add (i * 2)) = some (.int .u64 (q.1 : Int)) ∧ w.cell? (a1.add (i * 2 + 1)) = some (.int .u64 (q.2 : Int)) := by
      intro i hi
      obtain ⟨h1, h2, h3, h4⟩ := hx i (by omega)
      obtain ⟨z, e0, _, hw⟩ := DataW.trod_int Try.underlying24 h3
      obtain ⟨z', e0', _, hw'⟩ := DataW.trod_int Try.underlying24 h4
      simp at e0 e0'
      obtain ⟨k, hk, rfl⟩ := wf_u64 hw
      obtain ⟨k', hk', rfl⟩ := wf_u64 hw'
      exact ⟨(k, k'), hk, hk', by rw [h1, e0], by rw [h2, e0']⟩
    obtain ⟨q, hq⟩ := Deep.choose_lt each
    refine ⟨(List.range len).map q, some a1, m, by simp, by simp, fun hne => ?_⟩
    have hl0 : 0 < len := by
      rcases Nat.eq_zero_or_pos len with e | e
      · subst e; simp at hne
      · exact e
    have hsp := World.cell?_spot (hq 0 hl0).2.2.1
    have hlt := World.block_lt_of_cell? w _ (hq 0 hl0).2.2.1
    obtain ⟨bb, oo, sp⟩ := a1
    obtain rfl : sp = none := by simpa [Addr.add] using hsp
    refine ⟨bb, oo, rfl, by simpa [Addr.add] using hlt, fun i hi => ?_⟩
    have hi' : i < len := by simpa using hi
    obtain ⟨g0, g0', g1, g2⟩ := hq i hi'
    rw [add_plain] at g1 g2
    simp only [List.getElem_map, List.getElem_range]
    exact ⟨g0, g0', g1, by rw [Nat.add_assoc]; exact g2⟩

theorem open_ents (h : DataW.trod enc Try.prog w 0 (fun _ => true) true fuel 22 [v] = some x) :
    ∃ es : List Ent, RE (fun b => b < w.heap.size) w v es ∧ es.length ≤ maxLen := by
  have hu := Try.underlying39
  rcases Deep.open_slice_pairs Try.underlying22 hu cells39 rfl rfl cells23 cells37 h with ⟨hcs, _⟩ | ⟨a1, len, cap, m, n, V0, V1, D0, D1, P0, P1, hcs, _, hl, hm, hmm, _, hx⟩
  · simp at hcs
    subst hcs
    exact ⟨[], ⟨none, 0, rfl, by simp, by simp⟩, by simp⟩
  · simp at hcs
    subst hcs
    simp only [if_true] at hmm
    subst hmm
    have each : ∀ i, i < len → ∃ q : Ent, ∃ vn vp, w.cell? (a1.add (i * 2)) = some vn ∧ w.cell? (a1.add (i * 2 + 1)) = some vp ∧ RC (fun b => b < w.heap.size) w vn q.1 ∧ RP (fun b => b < w.heap.size) w vp q.2 := by
      intro i hi
      obtain ⟨h1, h2, h3, h4⟩ := hx i (by omega)
      obtain ⟨cs, hc⟩ := open_comps h3
      obtain ⟨ps, hp⟩ := open_pairs h4
      exact ⟨(cs, ps), _, _, h1, h2, hc, hp⟩
    obtain ⟨q, hq⟩ := Deep.choose_lt each
    refine ⟨(List.range len).map q, ⟨some a1, m, by simp, by simp, fun hne => ?_⟩, by simp; omega⟩
    have hl0 : 0 < len := by
      rcases Nat.eq_zero_or_pos len with e | e
      · subst e; simp at hne
      · exact e
    obtain ⟨_, _, hc0, _⟩ := hq 0 hl0
    have hsp := World.cell?_spot hc0
    have hlt := World.block_lt_of_cell? w _ hc0
    obtain ⟨bb, oo, sp⟩ := a1
    obtain rfl : sp = none := by simpa [Addr.add] using hsp
    refine ⟨bb, oo, rfl, by simpa [Addr.add] using hlt, fun i hi => ?_⟩
    have hi' : i < len := by simpa using hi
    obtain ⟨vn, vp, g1, g2, g3, g4⟩ := hq i hi'
    rw [add_plain] at g1 g2
    simp only [List.getElem_map, List.getElem_range]
    exact ⟨vn, vp, g1, by rw [Nat.add_assoc]; exact g2, g3, g4⟩
end
end Go.Proofs.Qxb6604512a
