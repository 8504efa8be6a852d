import Derived.Test.Qxb6604512aMake
import Derived.Deep.RegionLaw
namespace Go.Proofs.Qxb6604512a
open Go.RowKit
set_option linter.unusedVariables false

theorem Try.info78 : (Try.prog.info? 78).map (fun i => (i.zero, i.size, i.bytes)) = some (some (.agg #[.slice none 0 0, .slice none 0 0]), 2, 48) := by kernel_rfl
theorem Try.info80 : (Try.prog.info? 80).map (fun i => (i.zero, i.size, i.bytes)) = some (some (.agg #[.int .u64 0, .int .u64 0]), 2, 16) := by kernel_rfl

def NewPost (w : World) (e : Ending) (w' : World) : Prop := e = .returned (.pointer (some ⟨w.heap.size, 0, none⟩)) ∧ w' = w.alloc (.cells #[.slice none 0 0] 75)

theorem newSV_calls (w : World) : Calls Try.prog 29 #[] w (NewPost w) := by
  go_enter Try.func29, Try.ntmps29
  go_wp2
  go_ret
  exact ⟨rfl, rfl⟩

/-- all but two blocks stand as they stood -/
structure Kept (w w' : World) (p q : Option Nat) : Prop where
  os : w'.os = w.os
  tape : w'.tape = w.tape
  output : w'.output = w.output
  size : w.heap.size ≤ w'.heap.size
  block : ∀ b, b < w.heap.size → p ≠ some b → q ≠ some b → w'.heap[b]? = w.heap[b]?

structure AddPost (ok : Nat → Prop) (Bs B k : Nat) (vm : Value) (cells : List Value) (cs : List (Nat × List UInt8)) (w w' : World) (vm' vn : Value) : Prop where
  cell : w'.cell? ⟨Bs, 0, none⟩ = some vm'
  froz : w'.frozen? ⟨Bs, 0, none⟩ = false
  own : w'.ownsRow B 78 2 vm' (k + 1) (cells ++ [vn, .slice none 0 0])
  name : RC (fun b => ok b ∨ (w.heap.size ≤ b ∧ b < w'.heap.size ∧ vm'.ownBlock ≠ some b)) w' vn cs
  ne : vm'.ownBlock ≠ some Bs
  kept : Kept w w' (some Bs) vm.ownBlock
  loc : vm'.ownBlock = vm.ownBlock ∨ ∃ g, vm'.ownBlock = some g ∧ w.heap.size ≤ g

def AddMemberPost (ok : Nat → Prop) (Bs B k : Nat) (vm : Value) (cells : List Value) (cs : List (Nat × List UInt8)) (w : World) (e : Ending) (w' : World) : Prop :=
  e = .returned (.tuple #[]) ∧ ∃ vm' vn, AddPost ok Bs B k vm cells cs w w' vm' vn

theorem keepS {w w' : World} {vm : Value} {Bs : Nat} (hcell : w.cell? ⟨Bs, 0, none⟩ = some vm) (hfroz : w.frozen? ⟨Bs, 0, none⟩ = false) (hBs : Bs < w.heap.size) (hb : Below w.heap.size w w') : w'.cell? ⟨Bs, 0, none⟩ = some vm ∧ w'.frozen? ⟨Bs, 0, none⟩ = false :=
  ⟨(hb.cell (p := ⟨Bs, 0, none⟩) hBs).trans hcell, (hb.frozen (p := ⟨Bs, 0, none⟩) hBs).trans hfroz⟩

theorem keepG {w w' w2 : World} {vm : Value} {r : Option Nat} {Bs : Nat} (hcell : w.cell? ⟨Bs, 0, none⟩ = some vm) (hfroz : w.frozen? ⟨Bs, 0, none⟩ = false) (hBs : Bs < w.heap.size) (hb : Below w.heap.size w w') (hg : w'.grownBy w2 r) (hne : r ≠ some Bs) : w2.cell? ⟨Bs, 0, none⟩ = some vm ∧ w2.frozen? ⟨Bs, 0, none⟩ = false := by
  have e : w2.heap[Bs]? = w.heap[Bs]? := (hg.block Bs (Nat.lt_of_lt_of_le hBs hb.size) (fun h => hne h.symm)).trans (hb.block Bs hBs)
  exact ⟨(World.cell?_of_block (a := ⟨Bs, 0, none⟩) e).trans hcell, (World.frozen?_of_block (a := ⟨Bs, 0, none⟩) e).trans hfroz⟩

theorem add_done {ok : Nat → Prop} {Bs B k g cap : Nat} {vm vn : Value} {cells : List Value} {cs : List (Nat × List UInt8)} {w w1 w2 : World} {o : Obj}
    (hcell : w.cell? ⟨Bs, 0, none⟩ = some vm) (hfroz : w.frozen? ⟨Bs, 0, none⟩ = false) (hBs : Bs < w.heap.size) (hne : vm.ownBlock ≠ some Bs) (hok : ∀ b, ok b → b < w.heap.size ∧ b ≠ Bs ∧ vm.ownBlock ≠ some b)
    (hown : w.ownsRow B 78 2 vm k cells) (hb1 : Below w.heap.size w w1) (hrc : RC (fun b => ok b ∨ (w.heap.size ≤ b ∧ b < w1.heap.size)) w1 vn cs) (hgrow : (w1.alloc o).grownBy w2 vm.ownBlock) (hat : vm.ownBlock = some g ∨ g = w1.heap.size + 1)
    (hown2 : w2.ownsRow B 78 2 (.slice (some ⟨g, 0, none⟩) (k + 1) cap) (k + 1) (cells ++ [vn, .slice none 0 0])) :
    AddPost ok Bs B k vm cells cs w (w2.setCell ⟨Bs, 0, none⟩ (.slice (some ⟨g, 0, none⟩) (k + 1) cap)) (.slice (some ⟨g, 0, none⟩) (k + 1) cap) vn := by
  have hs1 := hb1.size
  have hs2 := hgrow.size
  simp at hs2
  have hgB : g ≠ Bs := by
    rcases hat with e | e
    · intro h2; rw [h2] at e; exact hne e
    · omega
  obtain ⟨hc2, hc2'⟩ := keepG hcell hfroz hBs (hb1.alloc hb1.size _) hgrow hne
  have hblk : ∀ b, b < w1.heap.size → b ≠ Bs → vm.ownBlock ≠ some b → (w2.setCell ⟨Bs, 0, none⟩ (.slice (some ⟨g, 0, none⟩) (k + 1) cap)).heap[b]? = w1.heap[b]? := fun b h1 h2 h3 =>
    ((Below.heap_setCell _ _ _ _ (by simpa using h2)).trans (hgrow.block b (by simp; omega) (fun e => h3 e.symm))).trans (Below.heap_alloc _ _ _ h1)
  have hvlt : ∀ b, vm.ownBlock = some b → b < w.heap.size := fun b hb => (hown.lt b hb).2
  constructor
  · exact World.cell?_setCell_same _ _ _ hc2
  · simpa using hc2'
  · exact ownsRow_setCell_other hown2 (by simp [Value.ownBlock]; exact hgB) _
  · refine hrc.kept (fun b hb => ?_) (fun b hb => ?_)
    · rcases hb with hb | hb
      · obtain ⟨h1, h2, h3⟩ := hok b hb
        exact hblk b (by omega) h2 h3
      · exact hblk b hb.2 (by omega) (fun e => by have := hvlt b e; omega)
    · rcases hb with hb | hb
      · exact .inl hb
      · refine .inr ⟨hb.1, by simp; omega, fun e => ?_⟩
        simp [Value.ownBlock] at e
        subst e
        rcases hat with e | e
        · have := hvlt _ e; omega
        · omega
  · simp [Value.ownBlock]; exact hgB
  · refine ⟨hgrow.os.trans hb1.os, hgrow.tape.trans hb1.tape, hgrow.output.trans hb1.output, by simp; omega, fun b h1 h2 h3 => ?_⟩
    exact (hblk b (by omega) (fun e => h2 (by rw [e])) h3).trans (hb1.block b h1)
  · rcases hat with e | e
    · exact .inl e.symm
    · exact .inr ⟨g, rfl, by omega⟩

set_option maxRecDepth 100000 in
set_option maxHeartbeats 4000000 in
theorem addMember_calls (ok : Nat → Prop) (Bs B k : Nat) (vm : Value) (cells : List Value) (cs : List (Nat × List UInt8)) (vt vv : Value) (w : World)
    (hcell : w.cell? ⟨Bs, 0, none⟩ = some vm) (hfroz : w.frozen? ⟨Bs, 0, none⟩ = false) (hown : w.ownsRow B 78 2 vm k cells) (hBw : B ≤ w.heap.size) (hne : vm.ownBlock ≠ some Bs)
    (h : RT ok w vt vv cs) (hok : ∀ b, ok b → b < w.heap.size ∧ b ≠ Bs ∧ vm.ownBlock ≠ some b) (hlen : cs.length ≤ 1048576) (hk : k ≤ 1048576) :
    Calls Try.prog 30 #[.pointer (some ⟨Bs, 0, none⟩), vt, vv] w (AddMemberPost ok Bs B k vm cells cs w) := by
  obtain ⟨i78, hi78, hz78, hs78, hb78⟩ := info_parts Try.info78
  have hBs := World.block_lt_of_cell? w _ hcell
  go_enter Try.func30, Try.ntmps30
  go_wp2_with fail
  go_region_law (first
    | (go_simp; go_at_call 33; refine (name_calls ok (w.drew) vt vv cs h (fun b hb => (hok b hb).1) hlen).mono ?_; rintro e w1 ⟨vn, rfl, hb1', hrc⟩; have hb1 : Below w.heap.size w w1 := (Below.refl _ _).drew.trans hb1'; obtain ⟨an, cn, rfl⟩ : ∃ an cn, vn = .slice an cs.length cn := (by obtain ⟨an, cn, e, _⟩ := hrc; exact ⟨an, cn, e⟩); obtain ⟨hc1, hc1'⟩ := keepS hcell hfroz hBs hb1; obtain ⟨hd1, hd1'⟩ := keepS hcell hfroz hBs (hb1.alloc hb1.size (.cells #[.slice an cs.length cn, .slice none 0 0] 78)))
    | (refine step_append_lies _ (by rfl) _ _ _ (by rfl) B 78 i78 _ 2 48 Try.underlying73 hi78 hz78 hs78 hb78 rfl (by omega) vm k cells (by rfl) ((own_below hown hb1).alloc _) ⟨w1.heap.size, 0, none⟩ 1 1 [.slice an cs.length cn, .slice none 0 0] (by rfl) (by rfl) (World.news_of_block (cs := #[.slice an cs.length cn, .slice none 0 0]) (t := 78) (fr := (0, 0)) (heap_alloc_new w1 _)) (by simp [Value.oneCell']) (by omega) (by unfold maxLen; omega) (by omega) (by have := hb1.size; simp; omega) (w1.heap.size + 1) (by simp) ?_; intro g cap w2 hown2 hgrow hat hlt2; obtain ⟨hc2, hc2'⟩ := keepG hcell hfroz hBs (hb1.alloc hb1.size _) hgrow hne)
    | fail)
  all_goals (go_wp2; go_end0; exact ⟨rfl, _, _, add_done hcell hfroz hBs hne hok hown hb1 hrc hgrow hat hown2⟩)
end Go.Proofs.Qxb6604512a
