import Derived.Test.Qxb6604512aSeq
namespace Go.Proofs.Qxb6604512a
open Go.RowKit
set_option linter.unusedVariables false

def pairCells (ps : List (Nat × Nat)) : List Value := (ps.map fun p => [Value.int .u64 (p.1 : Int), Value.int .u64 (p.2 : Int)]).flatten

theorem pairCells_succ (ps : List (Nat × Nat)) (k : Nat) (h : k < ps.length) : pairCells (ps.take (k + 1)) = pairCells (ps.take k) ++ [.int .u64 (ps[k].1 : Int), .int .u64 (ps[k].2 : Int)] := by
  unfold pairCells
  rw [List.take_succ_eq_append_getElem h, List.map_append, List.flatten_append]
  simp

theorem pairCells_get : ∀ (ps : List (Nat × Nat)) (i : Nat) (h : i < ps.length), (pairCells ps)[i * 2]? = some (.int .u64 (ps[i].1 : Int)) ∧ (pairCells ps)[i * 2 + 1]? = some (.int .u64 (ps[i].2 : Int))
  | [], i, h => by simp at h
  | p :: r, 0, h => by simp [pairCells]
  | p :: r, i + 1, h => by
    have ih := pairCells_get r i (by simpa using h)
    have e : pairCells (p :: r) = .int .u64 (p.1 : Int) :: .int .u64 (p.2 : Int) :: pairCells r := by simp [pairCells]
    rw [e, show (i + 1) * 2 = i * 2 + 1 + 1 by omega]
    simpa using ih

theorem RP.of_own {w : World} {B n : Nat} {v : Value} {ps : List (Nat × Nat)} (h : w.ownsRow B 80 2 v n (pairCells ps)) (hn : n = ps.length) (hb : ∀ p ∈ ps, p.1 < 18446744073709551616 ∧ p.2 < 18446744073709551616) : RP (fun b => v.ownBlock = some b ∧ B ≤ b ∧ b < w.heap.size) w v ps := by
  subst hn
  have hlt := h.lt
  obtain ⟨_, ⟨rfl, h0⟩ | ⟨g, cap, cur, rfl, hg, _⟩⟩ := id h
  · have e : ps = [] := List.eq_nil_of_length_eq_zero h0
    subst e
    exact ⟨none, 0, rfl, fun _ => ⟨rfl, rfl⟩, fun h => absurd rfl h⟩
  · refine ⟨some ⟨g, 0, none⟩, cap, rfl, by simp, fun _ => ⟨g, 0, rfl, ⟨rfl, hg, (hlt g rfl).2⟩, fun i hi => ?_⟩⟩
    obtain ⟨h1, h2⟩ := hb _ (List.getElem_mem hi)
    obtain ⟨g1, g2⟩ := pairCells_get ps i hi
    refine ⟨h1, h2, ?_, ?_⟩
    · rw [Nat.zero_add, h.cellAt (i * 2) (by omega), g1]
    · rw [Nat.zero_add, h.cellAt (i * 2 + 1) (by omega), g2]

/-- the members' row while the vector is built -/
structure BInv (es : List Ent) (w wr : World) (k : Nat) (vm : Value) (cells : List Value) : Prop where
  bel : Below w.heap.size w wr
  lt : w.heap.size < wr.heap.size
  cell : wr.cell? ⟨w.heap.size, 0, none⟩ = some vm
  froz : wr.frozen? ⟨w.heap.size, 0, none⟩ = false
  own : wr.ownsRow (w.heap.size + 1) 78 2 vm k cells
  each : ∀ i (h : i < es.length), i < k → ∃ vn vp, cells[i * 2]? = some vn ∧ cells[i * 2 + 1]? = some vp ∧ RC (fun b => w.heap.size < b ∧ b < wr.heap.size ∧ vm.ownBlock ≠ some b) wr vn es[i].1 ∧ RP (fun b => w.heap.size < b ∧ b < wr.heap.size ∧ vm.ownBlock ≠ some b) wr vp es[i].2

/-- .. and while the last member's pairs are added; wb: the world when they began -/
structure PInv (w wb wr : World) (k j Bm cm : Nat) (cells : List Value) (vn vq : Value) (ps : List (Nat × Nat)) : Prop where
  bel : Below w.heap.size w wr
  size : wb.heap.size ≤ wr.heap.size
  cell : wr.cell? ⟨w.heap.size, 0, none⟩ = some (.slice (some ⟨Bm, 0, none⟩) (k + 1) cm)
  froz : wr.frozen? ⟨w.heap.size, 0, none⟩ = false
  own : wr.ownsRow (w.heap.size + 1) 78 2 (.slice (some ⟨Bm, 0, none⟩) (k + 1) cm) (k + 1) (cells ++ [vn, vq])
  seqs : wr.ownsRow wb.heap.size 80 2 vq j (pairCells (ps.take j))
  low : ∀ b, b < wb.heap.size → b ≠ Bm → wr.heap[b]? = wb.heap[b]?

theorem pinv_next {w wb wr w' : World} {k j Bm cm : Nat} {cells : List Value} {vn vq : Value} {ps : List (Nat × Nat)} (h : PInv w wb wr k j Bm cm cells vn vq ps) (hj : j < ps.length) (hBm : w.heap.size < Bm) (hw : w.heap.size ≤ wb.heap.size)
    {e : Ending} (hp : AddSeqPost w.heap.size (w.heap.size + 1) wb.heap.size k j Bm cm cells (pairCells (ps.take j)) vn vq ps[j].1 ps[j].2 wr e w') : e = .returned (.tuple #[]) ∧ Below w.heap.size w w' ∧ ∃ vq', PInv w wb w' k (j + 1) Bm cm cells vn vq' ps := by
  obtain ⟨he, vq', h1, h2, h3, h4, h5⟩ := hp
  have hself : ∀ g, vq.ownBlock = some g → wb.heap.size ≤ g := fun g hg => (h.seqs.lt g hg).1
  have hs := h.size
  have hlow : ∀ b, b < wb.heap.size → b ≠ Bm → w'.heap[b]? = wr.heap[b]? := fun b hb hne => h5.block b (by omega) (fun e => hne (by cases e; rfl)) (fun e => by have := hself b e; omega)
  have hbel : Below w.heap.size w w' := ⟨h5.os.trans h.bel.os, h5.tape.trans h.bel.tape, h5.output.trans h.bel.output, Nat.le_trans h.bel.size h5.size, fun b hb => (hlow b (by omega) (by omega)).trans (h.bel.block b hb)⟩
  refine ⟨he, hbel, vq', hbel, Nat.le_trans h.size h5.size, h1, h2, h3, ?_, fun b hb hne => (hlow b hb hne).trans (h.low b hb hne)⟩
  rw [pairCells_succ ps j hj]
  exact h4

theorem binv_close {es : List Ent} {w wr wa wb wc : World} {k Bm cm : Nat} {vm vn vq : Value} {cells : List Value} (hk : k < es.length) (h : BInv es w wr k vm cells) (hba : Below wr.heap.size wr wa)
    (ha : AddPost (fun b => wr.heap.size ≤ b ∧ b < wa.heap.size) w.heap.size (w.heap.size + 1) k vm cells es[k].1 wa wb (.slice (some ⟨Bm, 0, none⟩) (k + 1) cm) vn)
    (hp : PInv w wb wc k es[k].2.length Bm cm cells vn vq es[k].2) (hps : ∀ p ∈ es[k].2, p.1 < 18446744073709551616 ∧ p.2 < 18446744073709551616) :
    BInv es w wc (k + 1) (.slice (some ⟨Bm, 0, none⟩) (k + 1) cm) (cells ++ [vn, vq]) := by
  have hsa := hba.size
  have hsb := ha.kept.size
  have hlt := h.lt
  have hcl : cells.length = k * 2 := h.own.1
  have hBmA : Bm ≠ w.heap.size := by have := ha.ne; simpa [Value.ownBlock] using this
  have hloc : some Bm = vm.ownBlock ∨ ∃ g, some Bm = some g ∧ wa.heap.size ≤ g := ha.loc
  have hvm : ∀ b, vm.ownBlock = some b → b < wr.heap.size := fun b hb => (h.own.lt b hb).2
  refine ⟨hp.bel, by have := hp.size; omega, hp.cell, hp.froz, hp.own, fun i hi hik => ?_⟩
  by_cases e : i = k
  · subst e
    refine ⟨vn, vq, by rw [List.getElem?_append_right (by omega)]; simp [hcl], by rw [List.getElem?_append_right (by omega)]; simp [hcl], ?_, ?_⟩
    · have hmv : ∀ b, ((wr.heap.size ≤ b ∧ b < wa.heap.size) ∨ (wa.heap.size ≤ b ∧ b < wb.heap.size ∧ (Value.slice (some ⟨Bm, 0, none⟩) (i + 1) cm).ownBlock ≠ some b)) → wr.heap.size ≤ b ∧ b < wb.heap.size ∧ b ≠ Bm := by
        rintro b (⟨h1, h2⟩ | ⟨h1, h2, h3⟩)
        · refine ⟨h1, by omega, fun e => ?_⟩
          subst e
          rcases hloc with e | ⟨g, e, hg⟩
          · have := hvm _ e.symm; omega
          · cases e; omega
        · exact ⟨by omega, h2, fun e => h3 (by rw [e]; rfl)⟩
      refine ha.name.kept (fun b hb => ?_) (fun b hb => ?_)
      · obtain ⟨q1, q2, q3⟩ := hmv b hb
        exact hp.low b q2 q3
      · obtain ⟨q1, q2, q3⟩ := hmv b hb
        have := hp.size
        exact ⟨by omega, by omega, fun e => q3 (by cases e; rfl)⟩
    · have hseq := hp.seqs
      rw [List.take_length] at hseq
      refine (RP.of_own hseq rfl hps).kept (fun b hb => rfl) (fun b hb => ⟨by omega, hb.2.2, fun e => ?_⟩)
      have hBm := (ha.own.lt Bm rfl).2
      have e : some Bm = some b := e
      cases e
      omega
  · obtain ⟨vn', vp', c1, c2, hrc, hrp⟩ := h.each i hi (by omega)
    have hmv : ∀ b, (w.heap.size < b ∧ b < wr.heap.size ∧ vm.ownBlock ≠ some b) → b ≠ Bm ∧ wc.heap[b]? = wr.heap[b]? := by
      rintro b ⟨h1, h2, h3⟩
      have hb : b ≠ Bm := by
        intro e
        subst e
        rcases hloc with e | ⟨g, e, hg⟩
        · exact h3 e.symm
        · cases e; omega
      refine ⟨hb, ?_⟩
      have e1 := hp.low b (by omega) hb
      have e2 := ha.kept.block b (by omega) (by simp; omega) h3
      have e3 := hba.block b h2
      exact (e1.trans e2).trans e3
    have hok : ∀ b, (w.heap.size < b ∧ b < wr.heap.size ∧ vm.ownBlock ≠ some b) → w.heap.size < b ∧ b < wc.heap.size ∧ (Value.slice (some ⟨Bm, 0, none⟩) (k + 1) cm).ownBlock ≠ some b := by
      intro b hb
      have := hp.size
      exact ⟨hb.1, by omega, fun e => (hmv b hb).1 (by cases e; rfl)⟩
    refine ⟨vn', vp', ?_, ?_, hrc.kept (fun b hb => (hmv b hb).2) hok, hrp.kept (fun b hb => (hmv b hb).2) hok⟩
    · rw [List.getElem?_append_left (by omega)]; exact c1
    · rw [List.getElem?_append_left (by omega)]; exact c2

def BuildPost (es : List Ent) (w : World) (e : Ending) (w' : World) : Prop :=
  ∃ Bs vm, e = .returned (.pointer (some ⟨Bs, 0, none⟩)) ∧ Below w.heap.size w w' ∧ w'.cell? ⟨Bs, 0, none⟩ = some vm ∧ RE (fun b => w.heap.size < b ∧ b < w'.heap.size) w' vm es ∧ Bs = w.heap.size

theorem binv_done {es : List Ent} {w wr : World} {vm : Value} {cells : List Value} (h : BInv es w wr es.length vm cells) : RE (fun b => w.heap.size < b ∧ b < wr.heap.size) wr vm es := by
  have hlt := h.own.lt
  have hown := h.own
  obtain ⟨_, ⟨e, h0⟩ | ⟨g, cap, cur, e, hg, _⟩⟩ := id h.own
  · subst e
    have e : es = [] := List.eq_nil_of_length_eq_zero h0
    subst e
    exact ⟨none, 0, rfl, fun _ => ⟨rfl, rfl⟩, fun h => absurd rfl h⟩
  · subst e
    refine ⟨some ⟨g, 0, none⟩, cap, rfl, by simp, fun _ => ⟨g, 0, rfl, ⟨by omega, (hlt g rfl).2⟩, fun i hi => ?_⟩⟩
    obtain ⟨vn, vp, c1, c2, hrc, hrp⟩ := h.each i hi hi
    refine ⟨vn, vp, ?_, ?_, hrc.kept (fun _ _ => rfl) (fun b hb => ⟨hb.1, hb.2.1⟩), hrp.kept (fun _ _ => rfl) (fun b hb => ⟨hb.1, hb.2.1⟩)⟩
    · rw [Nat.zero_add, hown.cellAt (i * 2) (by omega), c1]
    · rw [Nat.zero_add, hown.cellAt (i * 2 + 1) (by omega), c2]
end Go.Proofs.Qxb6604512a
