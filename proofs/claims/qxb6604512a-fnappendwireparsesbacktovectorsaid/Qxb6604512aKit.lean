import Derived.WalkKit
import Derived.WalkSpells
import Derived.Deep.OwnRows
import Derived.Deep.Draws
namespace Go.Proofs.Qxb6604512a
open Go.RowKit

/-- 'make([]T, n)', elements of 'size' cells -/
theorem run_make_cells {P : Program} (t e : TypeId) (z : Value) (size bytes : Nat) (ht : P.underlying t = some (.slice e)) (hinfo : (P.info? e).map (fun i => (i.zero, i.size, i.bytes)) = some (some z, size, bytes))
    (kl kc : IntKind) (n : Nat) (hbytes : bytes * n ≤ 281474976710656) (h63 : n ≤ 9223372036854775807) (w : World) :
    (Instr.makeSlice t (.int kl (n : Int)) (.int kc (n : Int))).run P w = .ok (.slice (some ⟨w.heap.size, 0, none⟩) n n) (w.alloc (.cells (madeCells z.cells (n * size)) e)) := by
  obtain ⟨i, hi, hz, hs, hb⟩ := info_parts hinfo
  have hb' : (i.bytes : Int) * (n : Int) ≤ 281474976710656 := by
    have h : ((i.bytes * n : Nat) : Int) ≤ 281474976710656 := by rw [hb]; omega
    rwa [Int.natCast_mul] at h
  have hr := run_make (P := P) w t e i z ht hi hz kl kc n n (by omega) (Int.le_refl _) hb' (by omega)
  simp only [Int.toNat_natCast, hs] at hr
  exact hr

theorem rowIs_made_cells (w : World) (z : Array Value) (m : Nat) (t : TypeId) : (w.alloc (.cells (madeCells z m) t)).rowIs w.heap.size t m (fun i => z[i % z.size]!) :=
  ⟨_, Deep.blk_alloc_new _ _, size_madeCells _ _, fun i hi => by simp [madeCells, hi]⟩

/-- all old cells, all old marks read as before -/
theorem bcell {W w1 : World} {B : Nat} (hb : Below B W w1) : (∀ b o, b < B → w1.cell? ⟨b, o, none⟩ = W.cell? ⟨b, o, none⟩) ∧ (∀ b o, b < B → w1.frozen? ⟨b, o, none⟩ = W.frozen? ⟨b, o, none⟩) :=
  ⟨fun b o h => hb.cell (p := ⟨b, o, none⟩) h, fun b o h => hb.frozen (p := ⟨b, o, none⟩) h⟩

theorem bytes_ext {a b : ByteArray} (h : a.toList = b.toList) : a = b := by
  rw [ByteArray.toList_eq, ByteArray.toList_eq] at h
  have h2 : a.data = b.data := Array.toList_inj.1 h
  cases a; cases b; simp_all

theorem row3_set {w : World} {B : Nat} {t : TypeId} {f : Nat → Value} (h : w.rowIs B t 3 f) (x y z : Value) :
    (((w.setCell ⟨B, 0, none⟩ x).setCell ⟨B, 1, none⟩ y).setCell ⟨B, 2, none⟩ z).cell? ⟨B, 0, none⟩ = some x ∧
    (((w.setCell ⟨B, 0, none⟩ x).setCell ⟨B, 1, none⟩ y).setCell ⟨B, 2, none⟩ z).cell? ⟨B, 1, none⟩ = some y ∧
    (((w.setCell ⟨B, 0, none⟩ x).setCell ⟨B, 1, none⟩ y).setCell ⟨B, 2, none⟩ z).cell? ⟨B, 2, none⟩ = some z := by
  have h3 := ((h.set 0 x).set 1 y).set 2 z
  refine ⟨?_, ?_, ?_⟩
  · rw [h3.cell (by omega)]; simp
  · rw [h3.cell (by omega)]; simp
  · rw [h3.cell (by omega)]; simp

theorem belowDrewN {B : Nat} {a w : World} (h : Below B a w) (n : Nat) : Below B a (w.drewN n) := h.trans ⟨rfl, rfl, rfl, Nat.le_refl _, fun _ _ => rfl⟩

theorem ne_nil_of_lt {α : Type} {l : List α} {k : Nat} (h : k < l.length) : l ≠ [] := by intro e; simp [e] at h

/-- what an append does to the world: only its own row's block and new blocks turn; what comes back lies in the old row's block or in a new one -/
structure Grows (w w' : World) (v v' : Value) : Prop where
  grown : w.grownBy w' v.ownBlock
  loc : v'.ownBlock = v.ownBlock ∨ ∃ g, v'.ownBlock = some g ∧ w.heap.size ≤ g

theorem Grows.trans {a b c : World} {u v x : Value} (h : Grows a b u v) (k : Grows b c v x) : Grows a c u x := by
  have hs := h.grown.size
  refine ⟨⟨k.grown.os.trans h.grown.os, k.grown.tape.trans h.grown.tape, k.grown.output.trans h.grown.output, Nat.le_trans h.grown.size k.grown.size, fun i hi hne => ?_⟩, ?_⟩
  · refine (k.grown.block i (by omega) ?_).trans (h.grown.block i hi hne)
    rcases h.loc with e | ⟨g, e, hg⟩
    · rw [e]; exact hne
    · rw [e]
      intro e2
      simp at e2
      omega
  · rcases k.loc with e | ⟨g, e, hg⟩
    · rcases h.loc with e2 | ⟨g, e2, hg⟩
      · exact .inl (e.trans e2)
      · exact .inr ⟨g, e.trans e2, hg⟩
    · exact .inr ⟨g, e, by omega⟩

theorem Grows.refl (w : World) (v : Value) : Grows w w v v := ⟨⟨rfl, rfl, rfl, Nat.le_refl _, fun _ _ _ => rfl⟩, .inl rfl⟩

theorem Grows.drewN {a b : World} {u v : Value} (h : Grows a b u v) (n : Nat) : Grows a (b.drewN n) u v :=
  ⟨⟨h.grown.os, h.grown.tape, h.grown.output, h.grown.size, h.grown.block⟩, h.loc⟩

/-- blocks laid ahead of it -/
theorem Grows.after {a b c : World} {u v : Value} (hb : Below a.heap.size a b) (h : Grows b c u v) : Grows a c u v := by
  have hs := hb.size
  refine ⟨⟨h.grown.os.trans hb.os, h.grown.tape.trans hb.tape, h.grown.output.trans hb.output, Nat.le_trans hb.size h.grown.size, fun i hi hne => ?_⟩, ?_⟩
  · exact (h.grown.block i (by omega) hne).trans (hb.block i hi)
  · rcases h.loc with e | ⟨g, e, hg⟩
    · exact .inl e
    · exact .inr ⟨g, e, by omega⟩

theorem Grows.of_append {w w' : World} {v v' : Value} (hg : w.grownBy w' v.ownBlock) (hl : v'.ownBlock = v.ownBlock ∨ v'.ownBlock = some w.heap.size) : Grows w w' v v' :=
  ⟨hg, hl.imp id fun e => ⟨_, e, Nat.le_refl _⟩⟩

theorem Grows.below {w w' : World} {v v' : Value} {B : Nat} (h : Grows w w' v v') (hB : B ≤ w.heap.size) (hv : ∀ k, v.ownBlock = some k → B ≤ k) : Below B w w' :=
  (Below.refl B w).grown h.grown hB hv

end Go.Proofs.Qxb6604512a
