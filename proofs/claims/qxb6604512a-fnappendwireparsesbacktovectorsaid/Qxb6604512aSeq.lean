import Derived.Test.Qxb6604512aAdd
import Derived.Laws.OwnMore
namespace Go.Proofs.Qxb6604512a
open Go.RowKit
set_option linter.unusedVariables false

theorem own_frozen {w : World} {B g n c size : Nat} {t : TypeId} {xs : List Value} (h : w.ownsRow B t size (.slice (some ⟨g, 0, none⟩) n c) n xs) (i : Nat) : w.frozen? ⟨g, i, none⟩ = false := by
  obtain ⟨_, ⟨e, _⟩ | ⟨g', cap, cur, e, hg, hb, _⟩⟩ := h
  · cases e
  · cases e
    simp [World.frozen?, hb]

/-- a cell of an own row is written -/
theorem own_set {w : World} {B g n c size i : Nat} {t : TypeId} {xs : List Value} (h : w.ownsRow B t size (.slice (some ⟨g, 0, none⟩) n c) n xs) (hi : i < n * size) (u : Value) : (w.setCell ⟨g, i, none⟩ u).ownsRow B t size (.slice (some ⟨g, 0, none⟩) n c) n (xs.set i u) := by
  obtain ⟨h1, ⟨e, _⟩ | ⟨g', cap, cur, e, hg, hb, hn, hc, hs, ht⟩⟩ := h
  · cases e
  · cases e
    have hsz : n * size ≤ cur.size := by rw [hs]; exact Nat.mul_le_mul_right _ hn
    have hr : w.rowIs g t cur.size (fun j => cur.getD j undef) := ⟨cur, hb, rfl, fun j hj => by simp [Array.getD, hj]⟩
    obtain ⟨c', e1, e2, e3⟩ := hr.set i u
    refine ⟨by simpa using h1, .inr ⟨g, c, c', rfl, hg, e1, hn, hc, by omega, ?_⟩⟩
    have hlen : xs.length = n * size := h1
    apply List.ext_getElem
    · simp; omega
    · intro j hj1 hj2
      have hj : j < n * size := by simp at hj2; omega
      have h4 := e3 j (by omega)
      have h5 : xs[j]'(by omega) = cur[j]'(by omega) := by
        have h6 : xs[j]? = (cur.toList.take (n * size))[j]? := by rw [ht]
        rw [List.getElem?_eq_getElem (by omega), List.getElem?_eq_getElem (by simp; omega)] at h6
        simpa using h6
      rw [Array.getElem?_eq_getElem (by omega)] at h4
      simp at h4
      simp [List.getElem_set]
      rw [h4]
      by_cases e : i = j
      · subst e
        simp
      · rw [if_neg e, if_neg (fun h => e h.symm), h5]
        simp [show j < cur.size by omega]

def AddSeqPost (Bs B β k j Bm cm : Nat) (cells pairs : List Value) (vn vq : Value) (boot seq : Nat) (w : World) (e : Ending) (w' : World) : Prop :=
  e = .returned (.tuple #[]) ∧ ∃ vq', w'.cell? ⟨Bs, 0, none⟩ = some (.slice (some ⟨Bm, 0, none⟩) (k + 1) cm) ∧ w'.frozen? ⟨Bs, 0, none⟩ = false ∧ w'.ownsRow B 78 2 (.slice (some ⟨Bm, 0, none⟩) (k + 1) cm) (k + 1) (cells ++ [vn, vq']) ∧
    w'.ownsRow β 80 2 vq' (j + 1) (pairs ++ [.int .u64 (boot : Int), .int .u64 (seq : Int)]) ∧ Kept w w' (some Bm) vq.ownBlock

theorem seq_done {Bs B β k j Bm cm g cap : Nat} {cells pairs : List Value} {vn vq : Value} {boot seq : Nat} {w w2 : World} {o : Obj}
    (hcell : w.cell? ⟨Bs, 0, none⟩ = some (.slice (some ⟨Bm, 0, none⟩) (k + 1) cm)) (hfroz : w.frozen? ⟨Bs, 0, none⟩ = false) (hown : w.ownsRow B 78 2 (.slice (some ⟨Bm, 0, none⟩) (k + 1) cm) (k + 1) (cells ++ [vn, vq]))
    (hq : w.ownsRow β 80 2 vq j pairs) (hBm : Bm < β) (hBs : Bs < β) (hBsm : Bs ≠ Bm) (hβw : β ≤ w.heap.size) (hgrow : (w.alloc o).drew.grownBy w2 vq.ownBlock) (hat : vq.ownBlock = some g ∨ g = w.heap.size + 1)
    (hown2 : w2.ownsRow β 80 2 (.slice (some ⟨g, 0, none⟩) (j + 1) cap) (j + 1) (pairs ++ [.int .u64 (boot : Int), .int .u64 (seq : Int)])) :
    AddSeqPost Bs B β k j Bm cm cells pairs vn vq boot seq w (.returned (.tuple #[])) (w2.setCell ⟨Bm, k * 2 + 1, none⟩ (.slice (some ⟨g, 0, none⟩) (j + 1) cap)) := by
  have hself : ∀ g, vq.ownBlock = some g → β ≤ g := fun g hg => (hq.lt g hg).1
  have hcl : cells.length = k * 2 := by have := hown.1; simp at this; omega
  have hs2 := hgrow.size
  simp at hs2
  have hblk : ∀ b, b < w.heap.size → vq.ownBlock ≠ some b → w2.heap[b]? = w.heap[b]? := fun b hb hne => (hgrow.block b (by simp; omega) (fun e => hne e.symm)).trans (Below.heap_alloc _ _ _ (by omega))
  have hlow : ∀ b, b < β → w2.heap[b]? = w.heap[b]? := fun b hb => hblk b (by omega) (fun e => by have := hself b e; omega)
  have hgm : g ≠ Bm := by
    rcases hat with e | e
    · have := hself g e; omega
    · omega
  have hown' : w2.ownsRow B 78 2 (.slice (some ⟨Bm, 0, none⟩) (k + 1) cm) (k + 1) (cells ++ [vn, vq]) :=
    ((hown.alloc o).drew).kept hgrow (.inr fun e => by have := hself Bm e.symm; omega)
  refine ⟨rfl, .slice (some ⟨g, 0, none⟩) (j + 1) cap, ?_, ?_, ?_, ?_, ?_⟩
  · rw [World.cell?_setCell_other (h := by simp)]
    exact (World.cell?_of_block (a := ⟨Bs, 0, none⟩) (hlow _ hBs)).trans hcell
  · rw [World.frozen?_setCell]
    exact (World.frozen?_of_block (a := ⟨Bs, 0, none⟩) (hlow _ hBs)).trans hfroz
  · have h1 := own_set hown' (i := k * 2 + 1) (by omega) (.slice (some ⟨g, 0, none⟩) (j + 1) cap)
    rw [List.set_append_right _ _ (by omega)] at h1
    simpa [hcl] using h1
  · exact ownsRow_setCell_other hown2 (by simp [Value.ownBlock]; exact hgm) _
  · refine ⟨hgrow.os, hgrow.tape, hgrow.output, by simp; omega, fun b h1 h2 h3 => ?_⟩
    exact (Below.heap_setCell _ _ _ _ (fun e => h2 (by simp at e; rw [e]))).trans (hblk b h1 h3)

set_option maxRecDepth 100000 in
set_option maxHeartbeats 4000000 in
theorem addSeq_calls (Bs B β k j Bm cm : Nat) (cells pairs : List Value) (vn vq : Value) (boot seq : Nat) (w : World)
    (hcell : w.cell? ⟨Bs, 0, none⟩ = some (.slice (some ⟨Bm, 0, none⟩) (k + 1) cm)) (hfroz : w.frozen? ⟨Bs, 0, none⟩ = false) (hown : w.ownsRow B 78 2 (.slice (some ⟨Bm, 0, none⟩) (k + 1) cm) (k + 1) (cells ++ [vn, vq]))
    (hq : w.ownsRow β 80 2 vq j pairs) (hBm : Bm < β) (hBs : Bs < β) (hBsm : Bs ≠ Bm) (hβw : β ≤ w.heap.size) (hk : k ≤ 1048576) (hj : j ≤ 1048576) :
    Calls Try.prog 31 #[.pointer (some ⟨Bs, 0, none⟩), .int .u64 boot, .int .u64 seq] w (AddSeqPost Bs B β k j Bm cm cells pairs vn vq boot seq w) := by
  obtain ⟨i80, hi80, hz80, hs80, hb80⟩ := info_parts Try.info80
  have hcl : cells.length = k * 2 := by have := hown.1; simp at this; omega
  have c1 : w.cell? ⟨Bm, k * 2 + 1, none⟩ = some vq := by
    rw [hown.cellAt (k * 2 + 1) (by omega), List.getElem?_append_right (by omega)]
    simp [hcl]
  have f1 := own_frozen hown (k * 2 + 1)
  have hkI : ¬ (k : Int) < 0 := by omega
  have hk1 : (k : Int) < (k : Int) + 1 := by omega
  obtain ⟨aq, cq, hvq⟩ : ∃ aq cq, vq = .slice aq j cq := by
    obtain ⟨_, ⟨rfl, rfl⟩ | ⟨g, c, cur, rfl, _⟩⟩ := hq
    · exact ⟨none, 0, rfl⟩
    · exact ⟨_, c, rfl⟩
  subst hvq
  have hA0 : (w.alloc (.cells #[.int .u64 (boot : Int), .int .u64 (seq : Int)] 80)).cell? ⟨Bs, 0, none⟩ = some (.slice (some ⟨Bm, 0, none⟩) (k + 1) cm) := by
    rw [World.cell?_alloc_lt (h := by simp; omega)]
    exact hcell
  have hA1 : (w.alloc (.cells #[.int .u64 (boot : Int), .int .u64 (seq : Int)] 80)).cell? ⟨Bm, k * 2 + 1, none⟩ = some (.slice aq j cq) := by
    rw [World.cell?_alloc_lt (h := by simp; omega)]
    exact c1
  have hself : ∀ g, (Value.slice aq j cq).ownBlock = some g → β ≤ g := fun g hg => (hq.lt g hg).1
  have hafter : ∀ w2, (w.alloc (.cells #[.int .u64 (boot : Int), .int .u64 (seq : Int)] 80)).drew.grownBy w2 (Value.slice aq j cq).ownBlock → w2.cell? ⟨Bs, 0, none⟩ = some (.slice (some ⟨Bm, 0, none⟩) (k + 1) cm) ∧ w2.cell? ⟨Bm, k * 2 + 1, none⟩ = some (.slice aq j cq) ∧ w2.frozen? ⟨Bm, k * 2 + 1, none⟩ = false := fun w2 hg => by
    have hblk : ∀ b, b < β → w2.heap[b]? = w.heap[b]? := fun b hb => (hg.block b (by simp; omega) (fun e => by have := hself b e.symm; omega)).trans (Below.heap_alloc _ _ _ (by omega))
    exact ⟨(World.cell?_of_block (a := ⟨Bs, 0, none⟩) (hblk _ hBs)).trans hcell, (World.cell?_of_block (a := ⟨Bm, k * 2 + 1, none⟩) (hblk _ hBm)).trans c1, (World.frozen?_of_block (a := ⟨Bm, k * 2 + 1, none⟩) (hblk _ hBm)).trans f1⟩
  have HAF : Hid (∀ w2, (w.alloc (.cells #[.int .u64 (boot : Int), .int .u64 (seq : Int)] 80)).drew.grownBy w2 (Value.slice aq j cq).ownBlock → w2.cell? ⟨Bs, 0, none⟩ = some (.slice (some ⟨Bm, 0, none⟩) (k + 1) cm) ∧ w2.cell? ⟨Bm, k * 2 + 1, none⟩ = some (.slice aq j cq) ∧ w2.frozen? ⟨Bm, k * 2 + 1, none⟩ = false) := hafter
  clear hafter
  go_enter Try.func31, Try.ntmps31
  go_wp2_with fail
  go_region_law (first
    | (refine step_append_lies _ (by rfl) _ _ _ (by rfl) β 80 i80 _ 2 16 Try.underlying76 hi80 hz80 hs80 hb80 rfl (by omega) (.slice aq j cq) j pairs (by rfl) ((hq.alloc _).drew) ⟨w.heap.size, 0, none⟩ 1 1 [.int .u64 (boot : Int), .int .u64 (seq : Int)] (by rfl) (by rfl) (World.news_of_block (cs := #[.int .u64 (boot : Int), .int .u64 (seq : Int)]) (t := 80) (fr := (0, 0)) (heap_alloc_new w _)) (by simp [Value.oneCell']) (by omega) (by unfold maxLen; omega) (by omega) (by simp; omega) (w.heap.size + 1) (by simp) ?_; intro g cap w2 hown2 hgrow hat hlt2; obtain ⟨d0, d1, d2⟩ := HAF.out w2 hgrow)
    | fail)
  all_goals (go_wp2; go_end0; exact seq_done hcell hfroz hown hq hBm hBs hBsm hβw hgrow hat hown2)
end Go.Proofs.Qxb6604512a
