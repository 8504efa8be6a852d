import Derived.Test.Qxb6604512aNum
import Derived.Laws.AppendOwnNone
namespace Go.Proofs.Qxb6604512a
open Go.RowKit
set_option linter.unusedVariables false

/-- a slice of bytes that is read, in a block of which 'ok' is known -/
def RB (ok : Nat → Prop) (w : World) (v : Value) (l : List UInt8) : Prop :=
  ∃ a cap, v = .slice a l.length cap ∧ (a = none → l = [] ∧ cap = 0) ∧ (l ≠ [] → ∃ b off, a = some ⟨b, off, none⟩ ∧ ok b ∧ ∀ i (h : i < l.length), w.cell? ⟨b, off + i, none⟩ = some (.int .u8 (l[i].toNat : Int)))

theorem RB.kept {ok ok' : Nat → Prop} {w w' : World} {v : Value} {l : List UInt8} (h : RB ok w v l) (hk : ∀ b, ok b → w'.heap[b]? = w.heap[b]?) (hok : ∀ b, ok b → ok' b) : RB ok' w' v l := by
  obtain ⟨a, cap, rfl, h1, h2⟩ := h
  refine ⟨a, cap, rfl, h1, fun hne => ?_⟩
  obtain ⟨b, off, h3, h4, h5⟩ := h2 hne
  exact ⟨b, off, h3, hok b h4, fun i hi => (World.cell?_of_block (a := ⟨b, off + i, none⟩) (hk b h4)).trans (h5 i hi)⟩

theorem RB.mono {ok ok' : Nat → Prop} {w : World} {v : Value} {l : List UInt8} (h : RB ok w v l) (hok : ∀ b, ok b → ok' b) : RB ok' w v l := h.kept (fun _ _ => rfl) hok

theorem RB.of_own {w : World} {B n : Nat} {v : Value} {l : List UInt8} (h : w.ownsRow B 5 1 v n (Lib.byteCells l)) : RB (fun b => v.ownBlock = some b ∧ B ≤ b ∧ b < w.heap.size) w v l := by
  obtain ⟨h1, ⟨rfl, rfl⟩ | ⟨g, cap, cur, rfl, hg, hb, hn, hc, hs, ht⟩⟩ := h
  · have e : l = [] := by
      have := h1
      simp [Lib.byteCells] at this
      exact this
    subst e
    exact ⟨none, 0, rfl, fun _ => ⟨rfl, rfl⟩, fun h => absurd rfl h⟩
  · have e : n = l.length := by simp [Lib.byteCells] at h1; omega
    subst e
    refine ⟨some ⟨g, 0, none⟩, cap, rfl, by simp, fun _ => ⟨g, 0, rfl, ⟨rfl, hg, (Array.getElem?_eq_some_iff.1 hb).1⟩, fun i hi => ?_⟩⟩
    have h2 : cur.toList.take l.length = Lib.byteCells l := by simpa using ht
    have hic : i < cur.size := by omega
    have h3 : cur[i] = .int .u8 (l[i].toNat : Int) := by
      have h4 : (cur.toList.take l.length)[i]? = (Lib.byteCells l)[i]? := by rw [h2]
      simp [Lib.byteCells, hi, hic] at h4
      exact h4
    simp [World.cell?, hb, hic, h3]

/-- a TLV element -/
def elem (t : Nat) (l : List UInt8) : List UInt8 := varNum t ++ varNum l.length ++ l

theorem varNum_len (n : Nat) : (varNum n).length ≤ 9 := by
  unfold varNum
  split
  · rw [Lib.beBytes_length]; omega
  · split
    · rw [List.length_cons, Lib.beBytes_length]; omega
    · split
      · rw [List.length_cons, Lib.beBytes_length]; omega
      · rw [List.length_cons, Lib.beBytes_length]; omega

theorem bc_append (a b : List UInt8) : Lib.byteCells (a ++ b) = Lib.byteCells a ++ Lib.byteCells b := by simp [Lib.byteCells]

theorem own_cast {w : World} {B n n' : Nat} {t : TypeId} {v : Value} {xs ys : List Value} (h : w.ownsRow B t 1 v n xs) (hn : n = n') (hx : xs = ys) : w.ownsRow B t 1 v n' ys := by subst hn hx; exact h

set_option maxRecDepth 100000 in
set_option maxHeartbeats 4000000 in
theorem elem_calls (B n t : Nat) (ht : t < 18446744073709551616) (sv : Value) (xs : List Value) (w : World) (hown : w.ownsRow B 5 1 sv n xs) (hBw : B ≤ w.heap.size) (vv : Value) (l : List UInt8)
    (hv : RB (fun b => sv.ownBlock ≠ some b ∧ b < w.heap.size) w vv l) (hlim : n + l.length + 18 ≤ 1407374883553) :
    Calls Try.prog 49 #[sv, .int .u64 t, vv] w (AppPost B n xs sv (elem t l) w) := by
  obtain ⟨i5, hi5, hz5, hs5, hb5⟩ := info_parts Try.info5
  obtain ⟨a, cap, rfl, hnil, hc⟩ := hv
  have hl1 := varNum_len t
  have hl2 := varNum_len l.length
  go_enter Try.func49, Try.ntmps49
  go_wp2_with fail
  refine (varNum_calls B n t ht sv xs w hown hBw (by omega)).mono ?_
  rintro e w1 ⟨v1, rfl, hown1, HG1⟩
  have hs1 := HG1.grown.size
  go_wp2_with fail
  refine (varNum_calls B (n + (varNum t).length) l.length (by omega) v1 _ w1 hown1 (by omega) (by omega)).mono ?_
  rintro e w2 ⟨v2, rfl, hown2, HG2⟩
  have hs2 := HG2.grown.size
  have HG12 := HG1.trans HG2
  have hfin : ∀ v' w3, w3.ownsRow B 5 1 v' (n + (varNum t).length + (varNum l.length).length + l.length) (xs ++ Lib.byteCells (varNum t) ++ Lib.byteCells (varNum l.length) ++ Lib.byteCells l) → Grows w2 w3 v2 v' → AppPost B n xs sv (elem t l) w (.returned v') w3 := by
    intro v' w3 h1 h2
    refine ⟨v', rfl, own_cast h1 ?_ ?_, HG12.trans h2⟩
    · simp [elem]; omega
    · simp [elem, bc_append]
  have hn2 : n + (varNum t).length + (varNum l.length).length + l.length ≤ 140737488355328 := by omega
  generalize (n + (varNum t).length + (varNum l.length).length) = n2 at hown2 hfin hn2
  generalize (xs ++ Lib.byteCells (varNum t) ++ Lib.byteCells (varNum l.length)) = xs2 at hown2 hfin
  cases a with
  | none =>
    obtain ⟨rfl, rfl⟩ := hnil rfl
    go_wp2_with (at_builtin; refine wpList_append_own_none rfl _ _ 45 rfl B 5 i5 1 Try.underlying45 hi5 v2 _ _ rfl hown2 rfl ?_)
    go_ret
    exact hfin v2 w2 (own_cast hown2 rfl (by simp [Lib.byteCells])) (Grows.refl _ _)
  | some ad =>
    have hnews : ∀ j u, (Lib.byteCells l)[j]? = some u → w2.cell? (ad.add j) = some u := by
      intro j u hj
      have hjl : j < l.length := by
        have := (List.getElem?_eq_some_iff.1 hj).1
        simpa [Lib.byteCells] using this
      obtain ⟨b, off, e, ⟨ok1, ok2⟩, h5⟩ := hc (ne_nil_of_lt hjl)
      cases e
      have h6 := h5 j hjl
      have h7 : u = .int .u8 (l[j].toNat : Int) := by
        simp [Lib.byteCells, hjl] at hj
        exact hj.symm
      have e2 : (⟨b, off, none⟩ : Addr).add j = ⟨b, off + j, none⟩ := by simp [Addr.add]
      rw [h7, e2]
      exact (World.cell?_of_block (a := ⟨b, off + j, none⟩) (HG12.grown.block b ok2 (fun e => ok1 e.symm))).trans h6
    go_wp2_with (at_builtin; refine wpList_append_own_at _ rfl _ _ 45 rfl B 5 i5 (.int .u8 0) 1 1 Try.underlying45 hi5 hz5 hs5 hb5 rfl (by decide) _ _ _ rfl hown2 ad l.length cap (Lib.byteCells l) rfl (by simp [Lib.byteCells]) hnews ?c2 ?c3 ?c4 ?c5 ?_)
    case c2 => intro u hu; simp [Lib.byteCells] at hu; obtain ⟨x, _, rfl⟩ := hu; rfl
    case c3 => unfold maxLen; omega
    case c4 => omega
    case c5 => omega
    intro v' w3 hown3 hgrow hnl hloc
    have HG := Grows.of_append (v' := v') hgrow (by simpa using hloc)
    clear hgrow hnl hloc
    go_wp2
    go_ret
    exact hfin _ _ hown3 HG
end Go.Proofs.Qxb6604512a
