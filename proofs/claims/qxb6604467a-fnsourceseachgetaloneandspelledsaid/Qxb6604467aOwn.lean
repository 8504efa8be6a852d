import Derived.Test.Qxb6604467aIdx
import Derived.Test.Qxb6604467aMapFn
import Derived.Maps.AppendAt
import Derived.Deep.Slices
namespace Go.Proofs.Qxb6604467a
open Go.RowKit
set_option linter.unusedVariables false

/-! Rows of numbers, and rows of rows of numbers, of the call's own -/

def natVals (zs : List Nat) : List Value := zs.map fun (n : Nat) => Value.int .i64 (n : Int)

def OwnsNats (w : World) (base : Nat) (v : Value) (zs : List Nat) : Prop := w.ownsRow base 3 1 v zs.length (natVals zs)

theorem ownsRow_shape {w : World} {base : Nat} {e : TypeId} {size : Nat} {v : Value} {n : Nat} {xs : List Value} (h : w.ownsRow base e size v n xs) : ∃ a cap, v = .slice a n cap := by
  rcases h.2 with ⟨rfl, rfl⟩ | ⟨g, cap, cur, rfl, _⟩
  · exact ⟨none, 0, rfl⟩
  · exact ⟨_, cap, rfl⟩

theorem ownsRow_of_blocks {w w' : World} {base : Nat} {e : TypeId} {size : Nat} {v : Value} {n : Nat} {xs : List Value} (h : w.ownsRow base e size v n xs) (hb : ∀ k, base ≤ k → k < w.heap.size → w'.heap[k]? = w.heap[k]?) : w'.ownsRow base e size v n xs := by
  refine ⟨h.1, ?_⟩
  rcases h.2 with hn | ⟨g, cap, cur, rfl, hbg, hgg, rest⟩
  · exact .inl hn
  · exact .inr ⟨g, cap, cur, rfl, hbg, (hb g hbg (Array.getElem?_eq_some_iff.1 hgg).1).trans hgg, rest⟩

theorem ownsRow_mono {w : World} {base base' : Nat} {e : TypeId} {size : Nat} {v : Value} {n : Nat} {xs : List Value} (h : w.ownsRow base e size v n xs) (hb : base' ≤ base) : w.ownsRow base' e size v n xs := by
  refine ⟨h.1, ?_⟩
  rcases h.2 with hn | ⟨g, cap, cur, rfl, hbg, rest⟩
  · exact .inl hn
  · exact .inr ⟨g, cap, cur, rfl, by omega, rest⟩

theorem ownsRow_kept_type {w w' : World} {base base' : Nat} {e e' : TypeId} {size size' : Nat} {v u : Value} {n n' : Nat} {xs xs' : List Value} (h : w.ownsRow base e size v n xs) (hu : w.ownsRow base' e' size' u n' xs') (hne : e ≠ e') (hg : w.grownBy w' u.ownBlock) : w'.ownsRow base e size v n xs := by
  refine h.kept hg ?_
  cases hv : v.ownBlock with
  | none => exact .inl rfl
  | some g =>
    refine .inr fun e1 => ?_
    rcases h.2 with ⟨rfl, _⟩ | ⟨g1, _, _, rfl, _, hh, _⟩
    · simp [Value.ownBlock] at hv
    · rcases hu.2 with ⟨rfl, _⟩ | ⟨g2, _, _, rfl, _, hh2, _⟩
      · simp [Value.ownBlock] at e1
      · simp [Value.ownBlock] at hv e1
        subst hv
        rw [← e1, hh] at hh2
        simp at hh2
        exact hne hh2.2

theorem OwnsNats.isInts {w : World} {base : Nat} {a : Option Addr} {cap : Nat} {zs : List Nat} (h : OwnsNats w base (.slice a zs.length cap) zs) : ∃ b, IsInts w a b 0 zs ∧ (zs ≠ [] → base ≤ b ∧ b < w.heap.size) := by
  have h0 := h
  rcases h.2 with ⟨hv, hn⟩ | ⟨g, cap', cur, hv, hbg, hgg, _⟩
  · have : zs = [] := List.eq_nil_of_length_eq_zero hn
    subst this
    exact ⟨0, ⟨by simp, by simp⟩, by simp⟩
  · simp only [Value.slice.injEq] at hv
    obtain ⟨rfl, _, rfl⟩ := hv
    refine ⟨g, ⟨fun _ => rfl, fun i hi => ?_⟩, fun _ => ⟨hbg, (Array.getElem?_eq_some_iff.1 hgg).1⟩⟩
    have := h0.cells (g := g) rfl i (.int .i64 (zs[i] : Nat)) (by simp [natVals, hi])
    rw [Addr.add_lit] at this
    simpa using this

def OwnsSlots (w : World) (base : Nat) (v : Value) (ss : List (List Nat)) : Prop :=
  ∃ vs : List Value, w.ownsRow base 66 1 v ss.length vs ∧ ∀ i (h : i < ss.length), ∃ u, vs[i]? = some u ∧ OwnsNats w base u ss[i]

theorem OwnsSlots.nil (w : World) (base : Nat) : OwnsSlots w base (.slice none 0 0) [] := ⟨[], World.ownsRow_nil _ _ _ _, by simp⟩

theorem OwnsSlots.of_blocks {w w' : World} {base : Nat} {v : Value} {ss : List (List Nat)} (h : OwnsSlots w base v ss) (hb : ∀ k, base ≤ k → k < w.heap.size → w'.heap[k]? = w.heap[k]?) : OwnsSlots w' base v ss := by
  obtain ⟨vs, h1, h2⟩ := h
  refine ⟨vs, ownsRow_of_blocks h1 hb, fun i hi => ?_⟩
  obtain ⟨u, hu, ho⟩ := h2 i hi
  exact ⟨u, hu, ownsRow_of_blocks ho hb⟩

theorem OwnsSlots.mono {w : World} {base base' : Nat} {v : Value} {ss : List (List Nat)} (h : OwnsSlots w base v ss) (hb : base' ≤ base) : OwnsSlots w base' v ss := by
  obtain ⟨vs, h1, h2⟩ := h
  refine ⟨vs, ownsRow_mono h1 hb, fun i hi => ?_⟩
  obtain ⟨u, hu, ho⟩ := h2 i hi
  exact ⟨u, hu, ownsRow_mono ho hb⟩

/-- behind 'append(slots, slot)' -/
theorem OwnsSlots.appended {w w1 : World} {base : Nat} {v v' u : Value} {ss : List (List Nat)} {zs : List Nat} {vs : List Value} (h1 : w.ownsRow base 66 1 v ss.length vs) (h2 : ∀ i (h : i < ss.length), ∃ u, vs[i]? = some u ∧ OwnsNats w base u ss[i]) (hu : OwnsNats w base u zs)
    (hown' : w1.ownsRow base 66 1 v' (ss.length + 1) (vs ++ [u])) (hg : w.grownBy w1 v.ownBlock) : OwnsSlots w1 base v' (ss ++ [zs]) := by
  have hvl : vs.length = ss.length := by simpa using h1.1
  refine ⟨vs ++ [u], by simpa using hown', fun i hi => ?_⟩
  by_cases e : i < ss.length
  · obtain ⟨u', e1, e2⟩ := h2 i e
    rw [List.getElem_append_left e, List.getElem?_append_left (by omega)]
    exact ⟨u', e1, ownsRow_kept_type e2 h1 (by decide) hg⟩
  · have e' : i = ss.length := by simp at hi; omega
    subst e'
    refine ⟨u, ?_, ?_⟩
    · rw [List.getElem?_append_right (by omega)]
      simp [hvl]
    · simp only [List.getElem_append_right (Nat.le_refl _), Nat.sub_self, List.getElem_singleton]
      exact ownsRow_kept_type hu h1 (by decide) hg

theorem OwnsSlots.isSlots {w : World} {base : Nat} {a : Option Addr} {cap : Nat} {ss : List (List Nat)} (h : OwnsSlots w base (.slice a ss.length cap) ss) : ∃ b A C Bk, IsSlots w a b 0 ss A C Bk (fun _ => 0) ∧ (ss ≠ [] → base ≤ b ∧ b < w.heap.size) ∧ ∀ i (h : i < ss.length), ss[i] ≠ [] → Bk i < w.heap.size := by
  obtain ⟨vs, h1, h2⟩ := h
  have hvl : vs.length = ss.length := by simpa using h1.1
  have h0 := h1
  have each : ∀ i, i < ss.length → ∃ q : Option Addr × Nat × Nat, ∀ (hi : i < ss.length), vs[i]? = some (.slice q.1 ss[i].length q.2.1) ∧ IsInts w q.1 q.2.2 0 ss[i] ∧ (ss[i] ≠ [] → q.2.2 < w.heap.size) := by
    intro i hi
    obtain ⟨u, hu, ho⟩ := h2 i hi
    obtain ⟨a', cap', rfl⟩ := ownsRow_shape ho
    obtain ⟨b', hb', hlt⟩ := OwnsNats.isInts ho
    exact ⟨(a', cap', b'), fun _ => ⟨hu, hb', fun hne => (hlt hne).2⟩⟩
  obtain ⟨q, hq'⟩ := Deep.choose_lt each
  have hq := fun i (hi : i < ss.length) => hq' i hi hi
  rcases h1.2 with ⟨hv, hn⟩ | ⟨g, cap', cur, hv, hbg, hgg, _⟩
  · have : ss = [] := List.eq_nil_of_length_eq_zero hn
    subst this
    exact ⟨0, fun i => (q i).1, fun i => (q i).2.1, fun i => (q i).2.2, ⟨by simp, by simp⟩, by simp, by simp⟩
  · simp only [Value.slice.injEq] at hv
    obtain ⟨rfl, _, rfl⟩ := hv
    refine ⟨g, fun i => (q i).1, fun i => (q i).2.1, fun i => (q i).2.2, ⟨fun _ => rfl, fun i hi => ?_⟩, fun _ => ⟨hbg, (Array.getElem?_eq_some_iff.1 hgg).1⟩, fun i hi => (hq i hi).2.2⟩
    obtain ⟨q1, q2, _⟩ := hq i hi
    refine ⟨?_, q2.1, fun j hj => q2.2 j hj⟩
    have := h0.cells (g := g) rfl i _ q1
    rw [Addr.add_lit] at this
    simpa using this

end Go.Proofs.Qxb6604467a
