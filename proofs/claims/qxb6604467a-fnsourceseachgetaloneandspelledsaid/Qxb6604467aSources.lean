import Derived.Test.Qxb6604467aGrp
import Derived.Deep.RegionHeld3
namespace Go.Proofs.Qxb6604467a
open Go.RowKit
set_option linter.unusedVariables false

theorem zero33 (w : World) : (zeroValue 33).run Try.prog w = .ok (.agg #[.int .i64 0, .string ⟨#[]⟩]) w := by kernel_rfl

/-- the cells of the row of sources, the first k told -/
def cellOf (ws gs : List (Int × ByteArray)) (V : Nat → Value) (k j : Nat) : Value :=
  if j / 3 < k then (if j % 3 = 0 then .bool (told ws (W gs (j / 3)).2).isSome else if j % 3 = 1 then V (j / 3) else .bool ((told ws (W gs (j / 3)).2).elim false (initOf ws)))
  else (if j % 3 = 1 then .slice none 0 0 else .bool false)

def SourcesPost (ws gs : List (Int × ByteArray)) (w : World) (e : Ending) (w' : World) : Prop :=
  ∃ V, e = .returned (.slice (some ⟨w.heap.size + 1, 0, none⟩) gs.length gs.length) ∧ Below w.heap.size w w' ∧ w'.rowIs (w.heap.size + 1) 36 (gs.length * 3) (cellOf ws gs V gs.length) ∧
    ∀ g, g < gs.length → OwnsSlots w' w.heap.size (V g) ((told ws (W gs g).2).getD [])

theorem toList_len (G : ByteArray) : G.toList.length = G.size := by rw [ByteArray.toList_eq]; simp

structure L1 (ws gs : List (Int × ByteArray)) (w wr : World) (lv : Value) (k m : Nat) (f : ByteArray → Option Value) : Prop where
  bel : Below w.heap.size w wr
  row : wr.rowIs (w.heap.size + 1) 36 (gs.length * 3) (cellOf ws gs (fun _ => .slice none 0 0) 0)
  grp : Grp wr (w.heap.size + 3) (w.heap.size + 1 + 1) lv (lensOf (ws.take k)) k m f (idxOf (ws.take k))
  pos : ∀ i, i < k → 0 < (W ws i).2.size

theorem upd_after {wA w1 : World} {base mb : Nat} {lv v0 : Value} {ls zs : List Nat} {n m : Nat} {f : ByteArray → Option Value} {ix : ByteArray → List Nat} {o : Obj} {G : ByteArray} (h : Grp wA base mb lv ls n m f ix) (hg : (wA.alloc o).drew.grownBy w1 v0.ownBlock) (hat : OwnsNats wA base v0 zs) (hn : n < maxLen) (hG : G.size ≤ maxLen) (v' : Value) :
    ∃ w2, (Instr.mapUpdate 65 (.map (some mb)) (.string G) v').run Try.prog w1 = .ok () w2 ∧ MapFn Try.prog 9 w2 mb (n + 1) (if (f G).isSome then m else m + 1) (fput f G v') ∧ w1.grownBy w2 (some mb) := by
  have hlt := h.map.lt
  have hm1 : MapFn Try.prog 9 w1 mb n m f := h.map.of_block ((hg.block mb (by simp; omega) (fun e => by have := (hat.lt mb e.symm).1; have := h.lt; omega)).trans (Deep.blk_alloc_lt _ _ _ hlt))
  exact hm1.update Try.underlying9 Try.underlying65 hn hG v'

theorem l1_next {ws gs : List (Int × ByteArray)} {w wA w1 w2 : World} {v0 : Value} {al : Option Addr} {cl : Nat} {ls : List Nat} {k m m' g cap : Nat} {f : ByteArray → Option Value} {F : Int} {G : ByteArray} {o : Obj} (hlt : k < ws.length)
    (hbel : Below w.heap.size w wA) (hrow : wA.rowIs (w.heap.size + 1) 36 (gs.length * 3) (cellOf ws gs (fun _ => .slice none 0 0) 0)) (hgrp : Grp wA (w.heap.size + 3) (w.heap.size + 1 + 1) (.slice al ls.length cl) ls k m f (idxOf (ws.take k))) (hls : lensOf (ws.take (k + 1)) = ls)
    (hpos : ∀ i, i < k → 0 < (W ws i).2.size) (hW : W ws k = (F, G)) (hG : ¬ G.size = 0) (hv0 : v0 = (f G).getD (.slice none 0 0)) (hat : OwnsNats wA (w.heap.size + 3) v0 (idxOf (ws.take k) G))
    (hown1 : w1.ownsRow (w.heap.size + 3) 3 1 (.slice (some ⟨g, 0, none⟩) ((idxOf (ws.take k) G).length + 1) cap) ((idxOf (ws.take k) G).length + 1) (natVals (idxOf (ws.take k) G) ++ [.int .i64 (k : Int)])) (hgrow : (wA.alloc o).drew.grownBy w1 v0.ownBlock)
    (hat1 : v0.ownBlock = some g ∨ g = wA.heap.size + 1) (hmap2 : MapFn Try.prog 9 w2 (w.heap.size + 1 + 1) (k + 1) m' (fput f G (.slice (some ⟨g, 0, none⟩) ((idxOf (ws.take k) G).length + 1) cap))) (hgrow2 : w1.grownBy w2 (some (w.heap.size + 1 + 1))) :
    L1 ws gs w w2 (.slice al (lensOf (ws.take (k + 1))).length cl) (k + 1) m' (fput f G (.slice (some ⟨g, 0, none⟩) ((idxOf (ws.take k) G).length + 1) cap)) := by
  have hmlt := hgrp.map.lt
  have hA : Grp (wA.alloc o).drew (w.heap.size + 3) (w.heap.size + 1 + 1) (.slice al ls.length cl) ls k m f (idxOf (ws.take k)) := hgrp.of_blocks fun j _ hj => Deep.blk_alloc_lt _ _ _ hj
  have hv0lt : ∀ j, v0.ownBlock = some j → w.heap.size + 3 ≤ j := fun j hj => (hat.lt j hj).1
  rw [hls]
  refine ⟨?_, ?_, ?_, ?_⟩
  · have h1 : Below w.heap.size w w1 := ((hbel.alloc (by omega) o).drew).grown hgrow (by simp; omega) (fun j hj => by have := hv0lt j hj; omega)
    exact h1.grown hgrow2 (by have := hgrow.size; simp at this; omega) (fun j hj => by cases hj; omega)
  · refine hrow.of_block ?_
    have h1 := hgrow.block (w.heap.size + 1) (by simp; omega) (fun e => by have := hv0lt _ e.symm; omega)
    have hsz := hgrow.size
    have h2 := hgrow2.block (w.heap.size + 1) (by simp at hsz; omega) (by simp)
    exact h2.trans (h1.trans (Deep.blk_alloc_lt _ _ _ (by omega)))
  · rw [hls]
    subst hv0
    have := hA.put G (g := g) (i := k) hown1 hgrow rfl (by simpa using hat1) hmap2 hgrow2
    have e : (fun s' => if s' = G then idxOf (ws.take k) G ++ [k] else idxOf (ws.take k) s') = idxOf (ws.take (k + 1)) := by
      funext s'
      rw [idxOf_snoc ws k hlt, hW]
    rwa [e] at this
  · intro i hi
    rcases Nat.lt_succ_iff_lt_or_eq.1 hi with h1 | h1
    · exact hpos i h1
    · subst h1
      rw [hW]
      exact Nat.pos_of_ne_zero hG

/-- at the head of the second loop; w0: the world behind the first one -/
structure L2 (ws gs : List (Int × ByteArray)) (w w0 wr : World) (k m2 : Nat) (f2 : ByteArray → Option Value) (V : Nat → Value) : Prop where
  bel : Below w.heap.size w wr
  kept : ∀ j, j < w0.heap.size → j ≠ w.heap.size + 1 → wr.heap[j]? = w0.heap[j]?
  size : w0.heap.size < wr.heap.size
  row : wr.rowIs (w.heap.size + 1) 36 (gs.length * 3) (cellOf ws gs V k)
  tmap : MapFn Try.prog 9 wr w0.heap.size k m2 f2
  told : ∀ s val, f2 s = some val → ∃ v, val = .agg #[.bool (src ws s).isSome, v, .bool ((src ws s).elim false (initOf ws))] ∧ OwnsSlots wr (w0.heap.size + 1) v ((src ws s).getD [])
  own : ∀ g, g < k → OwnsSlots wr (w0.heap.size + 1) (V g) ((src ws (W gs g).2).getD [])

theorem l2_start {ws gs : List (Int × ByteArray)} {w w0 : World} {lv : Value} {k m : Nat} {f : ByteArray → Option Value} (h : L1 ws gs w w0 lv k m f) : L2 ws gs w w0 (w0.alloc (.map #[] 0)) 0 0 (fun _ => none) (fun _ => .slice none 0 0) where
  bel := h.bel.alloc (by have := h.grp.map.lt; omega) _
  kept j hj _ := Deep.blk_alloc_lt _ _ _ hj
  size := by simp
  row := h.row.alloc _
  tmap := MapFn.made _ _ _
  told s val e := by cases e
  own g hg := by omega

theorem two_allocs {wx : World} {B i1 i2 i3 j : Nat} {x y z : Value} {o1 o2 : Obj} (hj : j < wx.heap.size) (hne : j ≠ B) :
    (((((wx.setCell ⟨B, i1, none⟩ x).setCell ⟨B, i2, none⟩ y).setCell ⟨B, i3, none⟩ z).alloc o1).alloc o2).heap[j]? = wx.heap[j]? := by
  rw [Deep.blk_alloc_lt _ _ _ (by simp; omega), Deep.blk_alloc_lt _ _ _ (by simpa using hj), Deep.blk_setCell_other _ _ _ _ hne, Deep.blk_setCell_other _ _ _ _ hne, Deep.blk_setCell_other _ _ _ _ hne]

theorem three_sets {wx : World} {B i1 i2 i3 j : Nat} {x y z : Value} (hne : j ≠ B) : (((wx.setCell ⟨B, i1, none⟩ x).setCell ⟨B, i2, none⟩ y).setCell ⟨B, i3, none⟩ z).heap[j]? = wx.heap[j]? := by
  rw [Deep.blk_setCell_other _ _ _ _ hne, Deep.blk_setCell_other _ _ _ _ hne, Deep.blk_setCell_other _ _ _ _ hne]

theorem cellOf_step {ws gs : List (Int × ByteArray)} {V : Nat → Value} {k : Nat} {v : Value} {kn ib : Bool} (h1 : kn = (told ws (W gs k).2).isSome) (h2 : ib = (told ws (W gs k).2).elim false (initOf ws)) (j : Nat) :
    (if j = k * 3 + 2 then Value.bool ib else if j = k * 3 + 1 then v else if j = k * 3 then Value.bool kn else cellOf ws gs V k j) = cellOf ws gs (fun g => if g = k then v else V g) (k + 1) j := by
  by_cases e2 : j = k * 3 + 2
  · have d : j / 3 = k := by omega
    have m : j % 3 = 2 := by omega
    rw [if_pos e2]
    unfold cellOf
    rw [d, m, if_pos (by omega), h2]
    simp
  · rw [if_neg e2]
    by_cases e1 : j = k * 3 + 1
    · have d : j / 3 = k := by omega
      have m : j % 3 = 1 := by omega
      rw [if_pos e1]
      unfold cellOf
      rw [d, m, if_pos (by omega)]
      simp
    · rw [if_neg e1]
      by_cases e0 : j = k * 3
      · have d : j / 3 = k := by omega
        have m : j % 3 = 0 := by omega
        rw [if_pos e0]
        unfold cellOf
        rw [d, m, if_pos (by omega), h1]
        simp
      · rw [if_neg e0]
        unfold cellOf
        have : j / 3 < k ↔ j / 3 < k + 1 := by omega
        have hne : j / 3 ≠ k := by omega
        simp only [this, hne, if_false]

theorem l2_next {ws gs : List (Int × ByteArray)} {w w0 wx wE : World} {k m2 m2' : Nat} {f2 f2' : ByteArray → Option Value} {V : Nat → Value} {F : Int} {G : ByteArray} {v : Value} {kn ib : Bool} (hl2 : L2 ws gs w w0 wx k m2 f2 V) (hlt : k < gs.length) (hW : W gs k = (F, G)) (htold : ∀ s, told ws s = src ws s)
    (hbel : Below w.heap.size w wE) (hkept : ∀ j, j < wx.heap.size → j ≠ w.heap.size + 1 → j ≠ w0.heap.size → wE.heap[j]? = wx.heap[j]?) (hsize : wx.heap.size ≤ wE.heap.size)
    (hrow : wE.rowIs (w.heap.size + 1) 36 (gs.length * 3) (fun j => if j = k * 3 + 2 then Value.bool ib else if j = k * 3 + 1 then v else if j = k * 3 then Value.bool kn else cellOf ws gs V k j))
    (hmap : MapFn Try.prog 9 wE w0.heap.size (k + 1) m2' f2') (hf : ∀ s val, f2' s = some val → f2 s = some val ∨ (s = G ∧ val = .agg #[.bool kn, v, .bool ib])) (hkn : kn = (src ws G).isSome) (hib : ib = (src ws G).elim false (initOf ws))
    (hov : OwnsSlots wE (w0.heap.size + 1) v ((src ws G).getD [])) (hT0 : w.heap.size + 1 < w0.heap.size := by omega) : L2 ws gs w w0 wE (k + 1) m2' f2' (fun g => if g = k then v else V g) where
  bel := hbel
  kept j hj hne := by
    have := hl2.size
    exact (hkept j (by omega) hne (by omega)).trans (hl2.kept j hj hne)
  size := by have := hl2.size; omega
  row := hrow.congr fun j _ => cellOf_step (by rw [htold, hW]; exact hkn) (by rw [htold, hW]; exact hib) j
  tmap := hmap
  told s val hs := by
    rcases hf s val hs with h | ⟨rfl, rfl⟩
    · obtain ⟨u, h1, h2⟩ := hl2.told s val h
      exact ⟨u, h1, h2.of_blocks fun j h1 h2 => hkept j h2 (by omega) (by omega)⟩
    · exact ⟨v, by rw [hkn, hib], hov⟩
  own g hg := by
    by_cases e : g = k
    · subst e
      rw [if_pos rfl, hW]
      exact hov
    · rw [if_neg e]
      exact (hl2.own g (by omega)).of_blocks fun j h1 h2 => hkept j h2 (by omega) (by omega)

theorem Grp.isBy {ws : List (Int × ByteArray)} {wr : World} {base mb : Nat} {lv : Value} {ls : List Nat} {n m : Nat} {f : ByteArray → Option Value} (h : Grp wr base mb lv ls n m f (idxOf ws)) : IsBy wr ws f := by
  intro arg
  have h1 := h.at arg
  obtain ⟨A, C, e⟩ := ownsRow_shape h1
  rw [e] at h1
  obtain ⟨Bk, h2, h3⟩ := OwnsNats.isInts h1
  exact ⟨A, C, Bk, e, h2, fun hne => (h3 hne).2⟩

theorem IsOps.below {w w' : World} {a : Option Addr} {b off : Nat} {ops : List (Int × ByteArray)} (h : IsOps w a b off ops) (hb : ops ≠ [] → b < w.heap.size) (hbel : Below w.heap.size w w') : IsOps w' a b off ops := by
  refine ⟨h.1, fun i hi => ?_⟩
  obtain ⟨h1, h2⟩ := h.2 i hi
  have hlt := hb (ne_nil_of_lt hi)
  exact ⟨(hbel.cell (p := ⟨b, _, none⟩) hlt).trans h1, (hbel.cell (p := ⟨b, _, none⟩) hlt).trans h2⟩

set_option maxRecDepth 100000 in
set_option maxHeartbeats 4000000 in
theorem sources_calls (ws gs : List (Int × ByteArray)) (a : Option Addr) (b off cap : Nat) (a' : Option Addr) (b' off' cap' : Nat) (w : World)
    (hw : IsOps w a b off ws) (hbw : ws ≠ [] → b < w.heap.size) (hg : IsOps w a' b' off' gs) (hbg : gs ≠ [] → b' < w.heap.size)
    (hwl : ws.length ≤ 256) (hgl : gs.length ≤ 1048576) (hws : ∀ i, (W ws i).2.size ≤ 1048576) (hgs : ∀ i, (W gs i).2.size ≤ 1048576) :
    Calls Try.prog 10 #[.agg #[], .slice a ws.length cap, .slice a' gs.length cap'] w (SourcesPost ws gs w) := by
  obtain ⟨i3, hi3, hz3, hs3, hb3⟩ := info_parts Try.info3
  have hmk := run_make_cells (P := Try.prog) 27 36 _ 3 40 Try.underlying27 Try.info36 .i64 .i64 gs.length (by omega) (by omega)
  have hmm := @run_makeMap Try.prog
  go_enter Try.func10, Try.ntmps10
  go_wp2
  go_loopw [9, 23] (fun t9 t23 wr => ∃ k m f al cl, t9 = .slice al (lensOf (ws.take k)).length cl ∧ t23 = .int .i64 (k : Nat) ∧ k ≤ ws.length ∧ L1 ws gs w wr (.slice al (lensOf (ws.take k)).length cl) k m f) (fun _ t23 _ => ws.length - (intOf t23).toNat)
  case atStart =>
    refine ⟨0, 0, fun _ => none, none, 0, rfl, rfl, Nat.zero_le _, ⟨?_, ?_, ⟨?_, by omega, ?_, fun s => .inl ⟨rfl, by simp [idxOf]⟩, by simp, by simp⟩, by simp⟩⟩
    · exact (((Below.refl _ _).alloc (Nat.le_refl _) _).alloc (by simp) _).alloc (by simp; omega) _
    · refine World.rowIs.alloc ?_ _
      have h := rowIs_made_cells (w.alloc (.cells #[] 29)) #[.bool false, .slice none 0 0, .bool false] (gs.length * 3) 36
      rw [World.size_alloc] at h
      refine h.congr fun i _ => ?_
      unfold cellOf
      have : i % 3 = 0 ∨ i % 3 = 1 ∨ i % 3 = 2 := by omega
      rcases this with e | e | e <;> simp [e]
    · have h := MapFn.made Try.prog 9 ((w.alloc (.cells #[] 29)).alloc (.cells (madeCells #[.bool false, .slice none 0 0, .bool false] (gs.length * 3)) 36))
      rw [World.size_alloc, World.size_alloc] at h
      exact h
    · exact World.ownsRow_nil _ _ _ _
  case round =>
    obtain ⟨k, m, f, al, cl, rfl, rfl, hk, hl1⟩ := hrel
    obtain ⟨w0, hw0⟩ : ∃ w0, w0 = wr := ⟨_, rfl⟩
    subst hw0
    by_cases hlt : k < ws.length
    · have e := hw.1 (ne_nil_of_lt hlt)
      subst e
      obtain ⟨c0, c1⟩ := hw.2 k hlt
      have hbb := hbw (ne_nil_of_lt hlt)
      obtain ⟨F, G, hWk⟩ : ∃ F G, W ws k = (F, G) := ⟨_, _, rfl⟩
      have hsz := hws k
      rw [W_eq, hWk] at c0 c1
      rw [hWk] at hsz
      dsimp only at hsz
      have c0' := (hl1.bel.cell (p := ⟨b, off + k * 2, none⟩) hbb).trans c0
      have c1' := (hl1.bel.cell (p := ⟨b, off + k * 2 + 1, none⟩) hbb).trans c1
      have HW : Hid (W ws k = (F, G)) := hWk
      clear c0 c1 hWk
      by_cases hG : G.size = 0
      · have hGe : G.toList.isEmpty = true := by
          have : G.toList = [] := List.eq_nil_of_length_eq_zero (by rw [toList_len]; exact hG)
          rw [this]; rfl
        go_wp2
        go_ret
        have hno : ∀ s, told ws s = none := fun s => by
          unfold told
          rw [if_pos ⟨k, hlt, by rw [HW.out]; exact hG⟩]
        refine ⟨fun _ => .slice none 0 0, rfl, hl1.bel.alloc (by have := hl1.grp.map.lt; omega) _, ((hl1.row.alloc _).congr fun i _ => ?_), fun g hg => ?_⟩
        · unfold cellOf
          rw [hno]
          have : i % 3 = 0 ∨ i % 3 = 1 ∨ i % 3 = 2 := by omega
          rcases this with e | e | e <;> simp [e]
        · rw [hno]
          exact OwnsSlots.nil _ _
      · have hGe : G.toList.isEmpty = false := by
          have : G.toList ≠ [] := fun h => hG (by rw [← toList_len G, h]; rfl)
          simpa using this
        have hszB : w.heap.size + 1 + 1 < w0.heap.size := hl1.grp.map.lt
        have hll := lensOf_length ws k hk
        obtain ⟨bl, hints, _⟩ := OwnsNats.isInts (hl1.grp.lens.alloc (.cells #[.int .i64 F, .string G] 33) : OwnsNats _ _ _ _)
        go_wp2_with fail
        refine (contains_calls G.size (lensOf (ws.take k)) al bl 0 cl _ hints (by omega)).mono ?_
        rintro e w' ⟨rfl, rfl⟩
        have hgrpA : Grp (w0.alloc (.cells #[.int .i64 F, .string G] 33)) (w.heap.size + 3) (w.heap.size + 1 + 1) (.slice al (lensOf (ws.take k)).length cl) (lensOf (ws.take k)) k m f (idxOf (ws.take k)) := hl1.grp.of_blocks fun j _ hj => Deep.blk_alloc_lt _ _ _ hj
        have hbelA : Below w.heap.size w (w0.alloc (.cells #[.int .i64 F, .string G] 33)) := hl1.bel.alloc (by omega) _
        have hrowA := hl1.row.alloc (.cells #[.int .i64 F, .string G] 33)
        have hcA : (w0.alloc (.cells #[.int .i64 F, .string G] 33)).cell? ⟨w0.heap.size, 1, none⟩ = some (.string G) := by simp
        have hszA : w0.heap.size < (w0.alloc (.cells #[.int .i64 F, .string G] 33)).heap.size := by simp
        generalize w0.alloc (.cells #[.int .i64 F, .string G] 33) = wA at hgrpA hbelA hrowA hcA hszA ⊢
        clear hints
        cases hcont : (lensOf (ws.take k)).contains G.size with
        | true =>
          have HLS : Hid (lensOf (ws.take (k + 1)) = lensOf (ws.take k)) := by
            rw [Hid, lensOf_snoc ws k hlt, W_eq hlt, HW.out]
            simp only [addLen, hcont, if_true]
          obtain ⟨v0, hv0⟩ : ∃ v0, v0 = (f G).getD (.slice none 0 0) := ⟨_, rfl⟩
          have hat := hgrpA.at G
          rw [← hv0] at hat
          have hlk1 : (Instr.lookup 65 (.map (some (w.heap.size + 1 + 1))) (.string G) false).run Try.prog wA.drew = .ok v0 wA.drew := by
            rw [hv0]
            exact (hgrpA.map.of_block (w' := wA.drew) rfl).look Try.underlying9 Try.underlying65 (zero66 _) (s := G) (by unfold maxLen; omega)
          have hlk2 : ∀ o, (Instr.lookup 65 (.map (some (w.heap.size + 1 + 1))) (.string G) false).run Try.prog (wA.alloc o).drew = .ok v0 (wA.alloc o).drew := by
            intro o
            rw [hv0]
            exact (hgrpA.map.of_block (w' := (wA.alloc o).drew) (Deep.blk_alloc_lt _ _ _ hgrpA.map.lt)).look Try.underlying9 Try.underlying65 (zero66 _) (s := G) (by unfold maxLen; omega)
          have hixl : (idxOf (ws.take k) G).length ≤ 256 := by have := idxOf_length (ws.take k) G; simp at this; omega
          have hne0 : some w0.heap.size ≠ v0.ownBlock := fun e => by
            have h2 := hl1.grp.at G
            rw [← hv0] at h2
            have := (h2.lt _ e.symm).2
            omega
          have kc : ∀ w1 o, (wA.alloc o).drew.grownBy w1 v0.ownBlock → w1.cell? ⟨w0.heap.size, 1, none⟩ = some (.string G) := fun w1 o hg => (hg.cell_far ⟨w0.heap.size, 1, none⟩ (by simp; omega) hne0).trans ((World.cell?_alloc_lt (w := wA) (o := o) (a := ⟨w0.heap.size, 1, none⟩) (h := hszA)).trans hcA)
          have kc2 : ∀ w1 w2 : World, w1.cell? ⟨w0.heap.size, 1, none⟩ = some (.string G) → w1.grownBy w2 (some (w.heap.size + 1 + 1)) → w2.cell? ⟨w0.heap.size, 1, none⟩ = some (.string G) := fun w1 w2 hc hg => hg.cell hc (by simp; omega)
          have HV0 : Hid (v0 = (f G).getD (.slice none 0 0)) := hv0
          clear hv0
          go_wp2
          go_region_held3 (fun w' => w'.cell? ⟨w0.heap.size, 1, none⟩ = some (.string G)) (first | go_keep | exact kc _ _ hgrow | exact kc2 _ _ (kc _ _ hgrow) hgrow2)
            ((refine step_append_lies _ (by rfl) _ _ _ (by rfl) (w.heap.size + 3) 3 i3 _ 1 8 Try.underlying66 hi3 hz3 hs3 hb3 rfl (by omega) v0 (idxOf (ws.take k) G).length (natVals (idxOf (ws.take k) G)) (by rfl) ((World.ownsRow.alloc hat _).drew) ⟨wA.heap.size, 0, none⟩ 1 1 [.int .i64 (k : Int)] (by rfl) (by rfl) (World.news_of_block (cs := #[.int .i64 (k : Int)]) (t := 3) (fr := (0, 0)) (heap_alloc_new wA _)) (by simp [Value.oneCell']) (by omega) (by unfold maxLen; omega) (by omega) (by simp; omega) (wA.heap.size + 1) (by simp) ?_; intro g cap w1 hown1 hgrow hat1 hlt1; obtain ⟨w2, hrun2, hmap2, hgrow2⟩ := upd_after (G := G) hgrpA hgrow hat (by unfold maxLen; omega) (by unfold maxLen; omega) (.slice (some ⟨g, 0, none⟩) ((idxOf (ws.take k) G).length + 1) cap)))
          all_goals
            go_wp2
            go_roundw
            case rel => exact ⟨k + 1, _, _, al, cl, by rw [HLS.out], by go_num, by omega, l1_next hlt hbelA hrowA hgrpA HLS.out hl1.pos HW.out hG HV0.out hat hown1 hgrow hat1 hmap2 hgrow2⟩
            case measure => simp [intOf]; omega
        | false =>
          have HLS : Hid (lensOf (ws.take (k + 1)) = lensOf (ws.take k) ++ [G.size]) := by
            rw [Hid, lensOf_snoc ws k hlt, W_eq hlt, HW.out]
            simp only [addLen, hcont, Bool.false_eq_true, if_false]
          have hkeepL : ∀ gl cpl (wB : World) o, wB.ownsRow (w.heap.size + 3) 3 1 (.slice (some ⟨gl, 0, none⟩) ((lensOf (ws.take k)).length + 1) cpl) ((lensOf (ws.take k)).length + 1) (natVals (lensOf (ws.take k)) ++ [.int .i64 (G.size : Int)]) → (wA.alloc o).grownBy wB (Value.ownBlock (.slice al (lensOf (ws.take k)).length cl)) → (Value.ownBlock (.slice al (lensOf (ws.take k)).length cl) = some gl ∨ gl = wA.heap.size + 1) →
              Grp wB (w.heap.size + 3) (w.heap.size + 1 + 1) (.slice (some ⟨gl, 0, none⟩) (lensOf (ws.take k) ++ [G.size]).length cpl) (lensOf (ws.take k) ++ [G.size]) k m f (idxOf (ws.take k)) ∧ Below w.heap.size w wB ∧ wB.rowIs (w.heap.size + 1) 36 (gs.length * 3) (cellOf ws gs (fun _ => .slice none 0 0) 0) ∧ wB.cell? ⟨w0.heap.size, 1, none⟩ = some (.string G) ∧ w0.heap.size < wB.heap.size ∧ ∀ v, OwnsNats w0 (w.heap.size + 3) v (idxOf (ws.take k) G) → True := by
            intro gl cpl wB o hown hg hat
            have hlv : ∀ j, Value.ownBlock (.slice al (lensOf (ws.take k)).length cl) = some j → w.heap.size + 3 ≤ j ∧ j < w0.heap.size := fun j hj => hl1.grp.lens.lt j hj
            have hmlt := hgrpA.map.lt
            refine ⟨?_, ?_, ?_, ?_, ?_, fun _ _ => trivial⟩
            · have := (hgrpA.of_blocks (w' := wA.alloc o) fun j _ hj => Deep.blk_alloc_lt _ _ _ hj).lens_append (x := G.size) hown hg (by rcases hat with e | e; exact .inl (by rw [e]; rfl); exact .inr (by rw [e]; simp [Value.ownBlock]))
              simpa using this
            · exact (hbelA.alloc (by omega) o).grown hg (by simp; omega) (fun j hj => by have := (hlv j hj).1; omega)
            · refine hrowA.of_block ((hg.block _ (by simp; omega) (fun e => by have := (hlv _ e.symm).1; omega)).trans (Deep.blk_alloc_lt _ _ _ (by omega)))
            · exact (hg.cell_far ⟨w0.heap.size, 1, none⟩ (by simp; omega) (fun e => by have := (hlv _ e.symm).2; simp at this)).trans ((World.cell?_alloc_lt (w := wA) (o := o) (a := ⟨w0.heap.size, 1, none⟩) (h := hszA)).trans hcA)
            · have := hg.size
              simp at this
              omega
          go_wp2_with (at_builtin; refine wpList_append_lies _ rfl _ _ 66 rfl (w.heap.size + 3) 3 i3 (.int .i64 0) 1 8 Try.underlying66 hi3 hz3 hs3 hb3 rfl (by decide) _ _ _ rfl (World.ownsRow.alloc hgrpA.lens _) ⟨wA.heap.size, 0, none⟩ 1 1 [.int .i64 (G.size : Int)] rfl rfl (cell_one_new _ _ _) (ints_oneCell .i64 [(G.size : Int)]) (by omega) (by unfold maxLen; omega) (by omega) (by simp; omega) (wA.heap.size + 1) (by simp) ?_; intro gl cpl wB hownL hgrowL hatL hltL)
          obtain ⟨hgrpB, hbelB, hrowB, hcB, hszB', _⟩ := hkeepL gl cpl wB _ hownL hgrowL hatL
          clear hkeepL hgrpA hbelA hrowA hcA hszA hownL hgrowL hatL hltL
          obtain ⟨v0, hv0⟩ : ∃ v0, v0 = (f G).getD (.slice none 0 0) := ⟨_, rfl⟩
          have hat := hgrpB.at G
          rw [← hv0] at hat
          have hlk1 : (Instr.lookup 65 (.map (some (w.heap.size + 1 + 1))) (.string G) false).run Try.prog wB.drew = .ok v0 wB.drew := by
            rw [hv0]
            exact (hgrpB.map.of_block (w' := wB.drew) rfl).look Try.underlying9 Try.underlying65 (zero66 _) (s := G) (by unfold maxLen; omega)
          have hlk2 : ∀ o, (Instr.lookup 65 (.map (some (w.heap.size + 1 + 1))) (.string G) false).run Try.prog (wB.alloc o).drew = .ok v0 (wB.alloc o).drew := by
            intro o
            rw [hv0]
            exact (hgrpB.map.of_block (w' := (wB.alloc o).drew) (Deep.blk_alloc_lt _ _ _ hgrpB.map.lt)).look Try.underlying9 Try.underlying65 (zero66 _) (s := G) (by unfold maxLen; omega)
          have hixl : (idxOf (ws.take k) G).length ≤ 256 := by have := idxOf_length (ws.take k) G; simp at this; omega
          have hne0 : some w0.heap.size ≠ v0.ownBlock := fun e => by
            have h2 := hl1.grp.at G
            rw [← hv0] at h2
            have := (h2.lt _ e.symm).2
            omega
          have kc : ∀ w1 o, (wB.alloc o).drew.grownBy w1 v0.ownBlock → w1.cell? ⟨w0.heap.size, 1, none⟩ = some (.string G) := fun w1 o hg => (hg.cell_far ⟨w0.heap.size, 1, none⟩ (by simp; omega) hne0).trans ((World.cell?_alloc_lt (w := wB) (o := o) (a := ⟨w0.heap.size, 1, none⟩) (h := hszB')).trans hcB)
          have kc2 : ∀ w1 w2 : World, w1.cell? ⟨w0.heap.size, 1, none⟩ = some (.string G) → w1.grownBy w2 (some (w.heap.size + 1 + 1)) → w2.cell? ⟨w0.heap.size, 1, none⟩ = some (.string G) := fun w1 w2 hc hg => hg.cell hc (by simp; omega)
          have HV0 : Hid (v0 = (f G).getD (.slice none 0 0)) := hv0
          clear hv0
          go_region_held3 (fun w' => w'.cell? ⟨w0.heap.size, 1, none⟩ = some (.string G)) (first | go_keep | exact kc _ _ hgrow | exact kc2 _ _ (kc _ _ hgrow) hgrow2)
            ((refine step_append_lies _ (by rfl) _ _ _ (by rfl) (w.heap.size + 3) 3 i3 _ 1 8 Try.underlying66 hi3 hz3 hs3 hb3 rfl (by omega) v0 (idxOf (ws.take k) G).length (natVals (idxOf (ws.take k) G)) (by rfl) ((World.ownsRow.alloc hat _).drew) ⟨wB.heap.size, 0, none⟩ 1 1 [.int .i64 (k : Int)] (by rfl) (by rfl) (World.news_of_block (cs := #[.int .i64 (k : Int)]) (t := 3) (fr := (0, 0)) (heap_alloc_new wB _)) (by simp [Value.oneCell']) (by omega) (by unfold maxLen; omega) (by omega) (by simp; omega) (wB.heap.size + 1) (by simp) ?_; intro g cap w1 hown1 hgrow hat1 hlt1; obtain ⟨w2, hrun2, hmap2, hgrow2⟩ := upd_after (G := G) hgrpB hgrow hat (by unfold maxLen; omega) (by unfold maxLen; omega) (.slice (some ⟨g, 0, none⟩) ((idxOf (ws.take k) G).length + 1) cap)))
          all_goals
            go_wp2
            go_roundw
            case rel => exact ⟨k + 1, _, _, some ⟨gl, 0, none⟩, cpl, by rw [HLS.out]; simp, by go_num, by omega, l1_next hlt hbelB hrowB hgrpB HLS.out hl1.pos HW.out hG HV0.out hat hown1 hgrow hat1 hmap2 hgrow2⟩
            case measure => simp [intOf]; omega
    · have hkl : k = ws.length := by omega
      subst hkl
      simp only [List.take_length] at hl1 ⊢
      have hT0 : w.heap.size + 1 + 1 < w0.heap.size := hl1.grp.map.lt
      have hpos := hl1.pos
      have htold : ∀ s, told ws s = src ws s := fun s => by
        unfold told
        rw [if_neg]
        rintro ⟨i, h1, h2⟩
        have := hpos i h1
        omega
      have hll : (lensOf ws).length ≤ 256 := by have := lensOf_length ws ws.length (Nat.le_refl _); rw [List.take_length] at this; omega
      have hlb : ∀ i (h : i < (lensOf ws).length), (lensOf ws)[i] ≤ 1048576 := fun i h => by
        have := lensOf_mem ws 1048576 (fun i _ => hws i) ws.length (Nat.le_refl _)
        rw [List.take_length] at this
        exact this _ (List.getElem_mem h)
      have HTOLD : Hid (∀ s, told ws s = src ws s) := htold
      clear htold
      go_wp2
      go_loopw [58] (fun t58 wr => ∃ k m2 f2 V, t58 = .int .i64 (k : Nat) ∧ k ≤ gs.length ∧ L2 ws gs w w0 wr k m2 f2 V) (fun t58 _ => gs.length - (intOf t58).toNat)
      case atStart => exact ⟨0, 0, fun _ => none, fun _ => .slice none 0 0, rfl, Nat.zero_le _, l2_start hl1⟩
      case round =>
        obtain ⟨k, m2, f2, V, rfl, hk, hl2⟩ := hrel
        obtain ⟨wx, hwx⟩ : ∃ wx, wx = wr := ⟨_, rfl⟩
        subst hwx
        by_cases hlt : k < gs.length
        · have e := hg.1 (ne_nil_of_lt hlt)
          subst e
          obtain ⟨c0, c1⟩ := hg.2 k hlt
          have hbb := hbg (ne_nil_of_lt hlt)
          obtain ⟨F, G, hWk⟩ : ∃ F G, W gs k = (F, G) := ⟨_, _, rfl⟩
          have hsz := hgs k
          rw [W_eq, hWk] at c0 c1
          rw [hWk] at hsz
          dsimp only at hsz
          have c0' := (hl2.bel.cell (p := ⟨b', off' + k * 2, none⟩) hbb).trans c0
          have c1' := (hl2.bel.cell (p := ⟨b', off' + k * 2 + 1, none⟩) hbb).trans c1
          have HW : Hid (W gs k = (F, G)) := hWk
          have hTx := hl2.size
          clear c0 c1 hWk
          have htm := hl2.tmap.of_block (w' := wx.alloc (.cells #[.int .i64 F, .string G] 33)) (Deep.blk_alloc_lt _ _ _ hTx)
          have r0 := hl2.row.cell (i := k * 3) (by omega)
          have r1 := hl2.row.cell (i := k * 3 + 1) (by omega)
          have r2 := hl2.row.cell (i := k * 3 + 2) (by omega)
          have f0 := hl2.row.frozen (k * 3)
          have f1 := hl2.row.frozen (k * 3 + 1)
          have f2' := hl2.row.frozen (k * 3 + 2)
          have hB1 : w.heap.size + 1 < wx.heap.size := by omega
          have hB2 : w.heap.size + 1 < wx.heap.size + 1 := by omega
          cases hf2 : f2 G with
          | some val =>
            obtain ⟨v, hval, hov⟩ := hl2.told G val hf2
            obtain ⟨av, ln, cv, hv⟩ : ∃ av ln cv, v = .slice av ln cv := by
              obtain ⟨vs, h1, _⟩ := hov
              obtain ⟨av, cv, h2⟩ := ownsRow_shape h1
              exact ⟨av, _, cv, h2⟩
            obtain ⟨kn, hkn⟩ : ∃ kn, kn = (src ws G).isSome := ⟨_, rfl⟩
            obtain ⟨ib, hib⟩ : ∃ ib, ib = (src ws G).elim false (initOf ws) := ⟨_, rfl⟩
            rw [← hkn, ← hib, hv] at hval
            subst hval
            have HV : Hid (v = .slice av ln cv) := hv
            have HKN : Hid (kn = (src ws G).isSome) := hkn
            have HIB : Hid (ib = (src ws G).elim false (initOf ws)) := hib
            clear hv hkn hib
            go_wp2_with (at_lookup; refine wpList_lookup_fn_ok _ rfl _ _ 68 rfl Try.underlying9 36 Try.underlying68 _ (zero36 _) w0.heap.size k m2 f2 rfl htm G rfl (by unfold maxLen; omega) ?_; simp only [hf2, Option.getD_some, Option.isSome_some])
            go_roundw
            case rel =>
              refine ⟨k + 1, _, _, _, by go_num, by omega, l2_next hl2 hlt HW.out HTOLD.out ?_ ?_ ?_ ((((hl2.row.set _ _).set _ _).set _ _).alloc _ |>.alloc _) (((hl2.tmap.mono (Nat.le_succ k)).of_block ?_)) (fun s val h => .inl h) HKN.out HIB.out (HV.out ▸ hov.of_blocks ?_)⟩
              · exact ((((hl2.bel.setCell (by exact Nat.le_succ _) _).setCell (by exact Nat.le_succ _) _).setCell (by exact Nat.le_succ _) _).alloc (by simp; omega) _).alloc (by simp; omega) _
              · intro j hj h1 h2
                exact two_allocs hj h1
              · simp; omega
              · exact two_allocs hTx (by omega)
              · intro j h1 h2
                exact two_allocs h2 (by omega)
            case measure => simp [intOf]; omega
          | none =>
            have hsrc : ∀ o1 o2, Calls Try.prog 30 #[.string G, .slice a ws.length cap, .map (some (w.heap.size + 1 + 1)), .slice al (lensOf ws).length cl] ((wx.alloc o1).alloc o2) (SrcPost ws G ((wx.alloc o1).alloc o2)) := by
              intro o1 o2
              have hbel2 : Below w.heap.size w ((wx.alloc o1).alloc o2) := (hl2.bel.alloc (by omega) _).alloc (by simp; omega) _
              have hgW : Grp ((wx.alloc o1).alloc o2) (w.heap.size + 3) (w.heap.size + 1 + 1) (.slice al (lensOf ws).length cl) (lensOf ws) ws.length m f (idxOf ws) := by
                have hg1 := hl1.grp
                rw [List.take_length] at hg1
                refine hg1.of_blocks fun j h1 h2 => ?_
                rw [Deep.blk_alloc_lt _ _ _ (by simp; omega), Deep.blk_alloc_lt _ _ _ (by omega)]
                exact hl2.kept j h2 (by omega)
              obtain ⟨bl, hints, hbl⟩ := OwnsNats.isInts hgW.lens
              have hs2 := hbel2.size
              exact source_calls ws G a b off cap (w.heap.size + 1 + 1) ws.length m f al bl 0 cl _ (hw.below hbw hbel2) (fun h => by have := hbw h; omega) hgW.map hgW.isBy hints (fun h => (hbl h).2) (by omega) hwl hll (fun i hi => hpos i hi) hlb
            go_wp2_with (at_lookup; refine wpList_lookup_fn_ok _ rfl _ _ 68 rfl Try.underlying9 36 Try.underlying68 _ (zero36 _) w0.heap.size k m2 f2 rfl htm G rfl (by unfold maxLen; omega) ?_; simp only [hf2, Option.getD_none, Option.isSome_none])
            refine (hsrc _ _).mono ?_
            rintro e wS ⟨v, rfl, hbS, hov⟩
            clear hsrc
            obtain ⟨av, ln, cv, hv⟩ : ∃ av ln cv, v = .slice av ln cv := by
              obtain ⟨vs, h1, _⟩ := hov
              obtain ⟨av, cv, h2⟩ := ownsRow_shape h1
              exact ⟨av, _, cv, h2⟩
            obtain ⟨kn, hkn⟩ : ∃ kn, kn = (src ws G).isSome := ⟨_, rfl⟩
            obtain ⟨ib, hib⟩ : ∃ ib, ib = (src ws G).elim false (initOf ws) := ⟨_, rfl⟩
            rw [← hkn, ← hib, hv]
            have HV : Hid (v = .slice av ln cv) := hv
            have HKN : Hid (kn = (src ws G).isSome) := hkn
            have HIB : Hid (ib = (src ws G).elim false (initOf ws)) := hib
            clear hv hkn hib
            have hszS := hbS.size
            simp only [World.size_alloc] at hszS hbS
            -- what stands in the source's world
            have hblk : ∀ j, j < wx.heap.size → wS.heap[j]? = wx.heap[j]? := fun j hj => by
              rw [hbS.block j (by omega), Deep.blk_alloc_lt _ _ _ (by simp; omega), Deep.blk_alloc_lt _ _ _ hj]
            have hrowS := hl2.row.of_block (hblk _ hB1)
            have hmapS := hl2.tmap.of_block (hblk _ hTx)
            have hbelS : Below w.heap.size w wS := ((hl2.bel.alloc (by omega) _).alloc (by simp; omega) _).trans (hbS.mono (by omega))
            have hvarG : wS.rowIs wx.heap.size 33 2 (fun i => if i = 0 then .int .i64 F else .string G) := by
              refine World.rowIs.of_block (w := (wx.alloc _).alloc _) ?_ (hbS.block _ (by omega))
              refine World.rowIs.alloc (World.rowIs_alloc wx #[.int .i64 F, .string G] 33 _ fun i hi => ?_) _
              match i, hi with
              | 0, _ => rfl
              | 1, _ => rfl
            have hvarS : wS.rowIs (wx.heap.size + 1) 36 3 resZero := by
              refine World.rowIs.of_block (w := (wx.alloc _).alloc _) ?_ (hbS.block _ (by omega))
              have := World.rowIs_alloc (wx.alloc (.cells #[.int .i64 F, .string G] 33)) #[.bool false, .slice none 0 0, .bool false] 36 resZero (fun i hi => by match i, hi with | 0, _ => rfl | 1, _ => rfl | 2, _ => rfl)
              simpa using this
            have g1 := hvarG.cell (i := 1) (by omega)
            have s0 := hvarS.cell (i := 0) (by omega)
            have s1 := hvarS.cell (i := 1) (by omega)
            have s2 := hvarS.cell (i := 2) (by omega)
            have t0 := hvarS.frozen 0
            have t1 := hvarS.frozen 1
            have t2 := hvarS.frozen 2
            rw [if_neg (by omega)] at g1
            have hmapS' : MapFn Try.prog 9 (((wS.setCell ⟨wx.heap.size + 1, 0, none⟩ (.bool kn)).setCell ⟨wx.heap.size + 1, 1, none⟩ (.slice av ln cv)).setCell ⟨wx.heap.size + 1, 2, none⟩ (.bool ib)) w0.heap.size k m2 f2 := hmapS.of_block (three_sets (by omega))
            have hkeepU : ∀ wU, (((wS.setCell ⟨wx.heap.size + 1, 0, none⟩ (.bool kn)).setCell ⟨wx.heap.size + 1, 1, none⟩ (.slice av ln cv)).setCell ⟨wx.heap.size + 1, 2, none⟩ (.bool ib)).grownBy wU (some w0.heap.size) →
                wU.rowIs (w.heap.size + 1) 36 (gs.length * 3) (cellOf ws gs V k) ∧ wU.cell? ⟨wx.heap.size + 1, 0, none⟩ = some (.bool kn) ∧ wU.cell? ⟨wx.heap.size + 1, 1, none⟩ = some (.slice av ln cv) ∧ wU.cell? ⟨wx.heap.size + 1, 2, none⟩ = some (.bool ib) ∧
                Below w.heap.size w wU ∧ (∀ j, j < wS.heap.size → j ≠ wx.heap.size + 1 → j ≠ w0.heap.size → wU.heap[j]? = wS.heap[j]?) ∧ wS.heap.size ≤ wU.heap.size := by
              intro wU hgU
              have hszU := hgU.size
              simp only [World.size_setCell] at hszU
              have hblkU : ∀ j, j < wS.heap.size → j ≠ wx.heap.size + 1 → j ≠ w0.heap.size → wU.heap[j]? = wS.heap[j]? := fun j h1 h2 h3 => (hgU.block j (by simpa using h1) (by simpa using h3)).trans (three_sets h2)
              obtain ⟨q0, q1, q2⟩ := row3_set hvarS (.bool kn) (.slice av ln cv) (.bool ib)
              have hne : some (wx.heap.size + 1) ≠ some w0.heap.size := by simp; omega
              refine ⟨hrowS.of_block (hblkU _ (by omega) (by omega) (by omega)), hgU.cell q0 hne, hgU.cell q1 hne, hgU.cell q2 hne, ?_, hblkU, hszU⟩
              exact ((((hbelS.setCell (by simp; omega) _).setCell (by simp; omega) _).setCell (by simp; omega) _)).grown hgU (by simp; omega) (fun j hj => by cases hj; omega)
            go_wp2_with (at_mapUpdate; refine wpList_update_fn _ rfl _ _ _ 68 rfl Try.underlying9 36 Try.underlying68 w0.heap.size k m2 f2 rfl hmapS' (by unfold maxLen; omega) G (.agg #[.bool kn, .slice av ln cv, .bool ib]) rfl rfl (by unfold maxLen; omega) ?_; intro wU hmapU hgU; obtain ⟨hrowU, q0, q1, q2, hbelU, hblkU, hszU⟩ := hkeepU wU hgU; have r0 := hrowU.cell (i := k * 3) (by omega); have r1 := hrowU.cell (i := k * 3 + 1) (by omega); have r2 := hrowU.cell (i := k * 3 + 2) (by omega); have f0 := hrowU.frozen (k * 3); have f1 := hrowU.frozen (k * 3 + 1); have f2 := hrowU.frozen (k * 3 + 2))
            go_roundw
            case rel =>
              refine ⟨k + 1, _, _, _, by go_num, by omega, l2_next hl2 hlt HW.out HTOLD.out ?_ ?_ ?_ (((hrowU.set _ _).set _ _).set _ _) (hmapU.of_block (three_sets (by omega))) ?_ HKN.out HIB.out (HV.out ▸ (hov.of_blocks ?_).mono (by simp; omega))⟩
              · exact ((hbelU.setCell (by exact Nat.le_succ _) _).setCell (by exact Nat.le_succ _) _).setCell (by exact Nat.le_succ _) _
              · intro j hj h1 h2
                rw [three_sets h1, hblkU j (by omega) (by omega) h2, hblk j hj]
              · simp; omega
              · intro s val hs
                by_cases e : s = G
                · subst e
                  rw [fput_same] at hs
                  cases hs
                  exact .inr ⟨rfl, rfl⟩
                · rw [fput_other _ _ e] at hs
                  exact .inl hs
              · intro j h1 h2
                simp only [World.size_alloc] at h1
                rw [three_sets (by omega), hblkU j h2 (by omega) (by omega)]
            case measure => simp [intOf]; omega
        · have hkl : k = gs.length := by omega
          subst hkl
          go_wp2
          go_ret
          refine ⟨V, rfl, hl2.bel, hl2.row, fun g hg => ?_⟩
          rw [HTOLD.out]
          exact (hl2.own g hg).mono (by omega)
end Go.Proofs.Qxb6604467a
