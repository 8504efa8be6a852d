import Derived.Test.Qxb6604467aSrc
import Derived.Test.Qxb6604467aOwn
namespace Go.Proofs.Qxb6604467a
open Go.RowKit
set_option linter.unusedVariables false

theorem Try.info3 : (Try.prog.info? 3).map (fun i => (i.zero, i.size, i.bytes)) = some (some (.int .i64 0), 1, 8) := by kernel_rfl
theorem Try.info66 : (Try.prog.info? 66).map (fun i => (i.zero, i.size, i.bytes)) = some (some (.slice none 0 0), 1, 24) := by kernel_rfl
theorem Try.info36 : (Try.prog.info? 36).map (fun i => (i.zero, i.size, i.bytes)) = some (some (.agg #[.bool false, .slice none 0 0, .bool false]), 3, 40) := by kernel_rfl
theorem zero66 (w : World) : (zeroValue 66).run Try.prog w = .ok (.slice none 0 0) w := by kernel_rfl
theorem zero36 (w : World) : (zeroValue 36).run Try.prog w = .ok (.agg #[.bool false, .slice none 0 0, .bool false]) w := by kernel_rfl

theorem neq33 (F1 F2 : Int) (G1 G2 : ByteArray) (h : ¬ (F1 = F2 ∧ G1 = G2)) (w : World) : (binOp .neq 33 (.agg #[.int .i64 F1, .string G1]) (.agg #[.int .i64 F2, .string G2])).run Try.prog w = .ok (.bool true) w := by
  by_cases hF : F1 = F2
  · subst hF
    have hG : (G1.toList == G2.toList) = false := by
      exact beq_eq_false_iff_ne.2 fun e => h ⟨rfl, bytes_ext e⟩
    clear h
    go_simp
  · have hF' : (F1 == F2) = false := by simpa using hF
    clear h hF
    go_simp

/-- what the map of places tells -/
def IsBy (w : World) (ws : List (Int × ByteArray)) (f : ByteArray → Option Value) : Prop :=
  ∀ arg, ∃ A C Bk, (f arg).getD (.slice none 0 0) = .slice A (idxOf ws arg).length C ∧ IsInts w A Bk 0 (idxOf ws arg) ∧ (idxOf ws arg ≠ [] → Bk < w.heap.size)

def SrcPost (ws : List (Int × ByteArray)) (s : ByteArray) (w : World) (e : Ending) (w' : World) : Prop :=
  ∃ v, e = .returned (.agg #[.bool (src ws s).isSome, v, .bool ((src ws s).elim false (initOf ws))]) ∧ Below w.heap.size w w' ∧ OwnsSlots w' w.heap.size v ((src ws s).getD [])

def resZero (i : Nat) : Value := if i = 1 then .slice none 0 0 else .bool false

/-- at the head of the outer loop -/
structure OutInv (ws : List (Int × ByteArray)) (s : ByteArray) (w wr : World) (av : Option Addr) (cv : Nat) (acc : List (List Nat)) (fuel p : Nat) : Prop where
  bel : Below w.heap.size w wr
  row : wr.rowIs w.heap.size 36 3 resZero
  own : OwnsSlots wr (w.heap.size + 1) (.slice av acc.length cv) acc
  eq : srcGo ws s fuel p acc = src ws s
  fuel : s.size < fuel + p
  le : p ≤ s.size
  len : acc.length ≤ p
  ne : ∀ k (h : k < acc.length), acc[k] ≠ [] ∧ acc[k].getD 0 0 < ws.length

/-- at the head of the middle loop -/
structure MidInv (ws : List (Int × ByteArray)) (s : ByteArray) (w0 wr : World) (au : Option Addr) (cu : Nat) (slot : List Nat) (p j : Nat) : Prop where
  bel : Below w0.heap.size w0 wr
  own : OwnsNats wr w0.heap.size (.slice au slot.length cu) slot
  le : j ≤ (lensOf ws).length
  eq : pickLens ws s p ((lensOf ws).drop j) slot = pickLens ws s p (lensOf ws) []
  len : slot.length ≤ j * 256
  ok : SlotOK ws s p slot

/-- at the head of the inner loop -/
structure InInv (ws : List (Int × ByteArray)) (s : ByteArray) (w0 wr : World) (au : Option Addr) (cu : Nat) (is slot0 slot : List Nat) (p j : Nat) : Prop where
  bel : Below w0.heap.size w0 wr
  own : OwnsNats wr w0.heap.size (.slice au slot.length cu) slot
  le : j ≤ is.length
  eq : pick ws p (is.drop j) slot = pick ws p is slot0
  len : slot.length ≤ slot0.length + j
  ok : SlotOK ws s p slot

theorem in_snoc {ws : List (Int × ByteArray)} {s : ByteArray} {w0 wy w1 : World} {au : Option Addr} {cu : Nat} {is slot0 slot : List Nat} {p q i nq : Nat} {o : Obj} {v' : Value} (hin : InInv ws s w0 wy au cu is slot0 slot p q) (hq : q < is.length) (hi : i = is[q])
    (hiw : i < ws.length) (hih : hasAt s p (W ws i).2 = true) (h1 : ¬ ((W ws i).1 = 2 ∧ 0 < p)) (h2 : ¬ (slot ≠ [] ∧ W ws i ≠ W ws (slot.getD 0 0)))
    (hown' : w1.ownsRow w0.heap.size 3 1 v' (slot.length + 1) (natVals slot ++ [.int .i64 (i : Int)])) (hg : ((wy.drewN nq).alloc o).grownBy w1 (Value.ownBlock (.slice au slot.length cu))) :
    ∃ au' cu', v' = .slice au' (slot ++ [i]).length cu' ∧ InInv ws s w0 w1 au' cu' is slot0 (slot ++ [i]) p (q + 1) := by
  obtain ⟨au', cu', rfl⟩ := ownsRow_shape hown'
  refine ⟨au', cu', by simp, ⟨?_, ?_, by omega, ?_, ?_, hin.ok.append hiw hih h1 h2⟩⟩
  · refine ((belowDrewN hin.bel nq).alloc hin.bel.size o).grown hg (by have := hin.bel.size; simp; omega) (fun k hk => (hin.own.lt k hk).1)
  · show w1.ownsRow _ _ _ _ _ _
    simpa [natVals] using hown'
  · subst hi
    rw [← pick_snoc hq h1 h2]
    exact hin.eq
  · have := hin.len
    simp
    omega

theorem src_none_of {ws : List (Int × ByteArray)} {s : ByteArray} {w w0 wx wy : World} {av au au' : Option Addr} {cv cu cu' : Nat} {acc : List (List Nat)} {is slot slot' : List Nat} {fuel p j q nn : Nat} (hout : OutInv ws s w w0 av cv acc fuel p) (hmid : MidInv ws s w0 wx au cu slot p j) (hin : InInv ws s w0 wy au' cu' is slot slot' p q)
    (hp : p < s.size) (hj : j < (lensOf ws).length) (hfit : ¬ s.size < p + nn) (hn : nn = (lensOf ws)[j]) (his : is = idxOf ws (s.extract p (p + nn))) (h : pick ws p (is.drop q) slot' = none) : src ws s = none := by
  subst hn his
  rw [hin.eq] at h
  have h2 := hmid.eq
  rw [pickLens_step hj hfit, h] at h2
  have h3 := hout.eq
  have h4 := hout.fuel
  obtain ⟨f, rfl⟩ : ∃ f, fuel = f + 1 := ⟨fuel - 1, by omega⟩
  rw [srcGo_none hp h2.symm] at h3
  exact h3.symm

theorem mid_next {ws : List (Int × ByteArray)} {s : ByteArray} {w0 wx wy : World} {au au' : Option Addr} {cu cu' : Nat} {is slot slot' : List Nat} {p j q nn : Nat} (hmid : MidInv ws s w0 wx au cu slot p j) (hin : InInv ws s w0 wy au' cu' is slot slot' p q)
    (hj : j < (lensOf ws).length) (hfit : ¬ s.size < p + nn) (hn : nn = (lensOf ws)[j]) (his : is = idxOf ws (s.extract p (p + nn))) (hl : is.length ≤ 256) (h : pick ws p is slot = some slot') : MidInv ws s w0 wy au' cu' slot' p (j + 1) := by
  subst hn his
  refine ⟨hin.bel, hin.own, hj, ?_, ?_, hin.ok⟩
  · have h2 := hmid.eq
    rw [pickLens_step hj hfit, h] at h2
    exact h2
  · have h1 := hin.len
    have h2 := hmid.len
    have h3 := hin.le
    omega

theorem slots_next {ws : List (Int × ByteArray)} {s : ByteArray} {w w0 wx w1 : World} {av au : Option Addr} {cv cu : Nat} {acc : List (List Nat)} {slot : List Nat} {fuel p j : Nat} {vs : List Value} {v' : Value} {o : Obj} (hout : OutInv ws s w w0 av cv acc fuel p) (hmid : MidInv ws s w0 wx au cu slot p j)
    (hvs1 : w0.ownsRow (w.heap.size + 1) 66 1 (.slice av acc.length cv) acc.length vs) (hvs2 : ∀ i (h : i < acc.length), ∃ u, vs[i]? = some u ∧ OwnsNats w0 (w.heap.size + 1) u acc[i])
    (hown' : w1.ownsRow (w.heap.size + 1) 66 1 v' (acc.length + 1) (vs ++ [.slice au slot.length cu])) (hg : (wx.alloc o).grownBy w1 (Value.ownBlock (.slice av acc.length cv))) :
    Below w.heap.size w w1 ∧ w1.rowIs w.heap.size 36 3 resZero ∧ OwnsSlots w1 (w.heap.size + 1) v' (acc ++ [slot]) := by
  have hsz0 := hout.row.lt
  have hsz1 := hmid.bel.size
  have hbel2 : Below w.heap.size w wx := hout.bel.trans (hmid.bel.mono hout.bel.size)
  have hk : ∀ k, k < w0.heap.size → (wx.alloc o).heap[k]? = w0.heap[k]? := fun k hk => (Deep.blk_alloc_lt _ _ _ (by omega)).trans (hmid.bel.block k hk)
  refine ⟨(hbel2.alloc (by omega) o).grown hg (by simp; omega) (fun k hk => by have := (hvs1.lt k hk).1; omega), ?_, ?_⟩
  · refine hout.row.of_block ((hg.block _ (by simp; omega) ?_).trans (hk _ hsz0))
    intro e1
    have := (hvs1.lt _ e1.symm).1
    omega
  · refine OwnsSlots.appended (w := wx.alloc o) (ownsRow_of_blocks hvs1 fun k _ hkk => hk k hkk) (fun i hi => ?_) ?_ hown' hg
    · obtain ⟨u, e1, e2⟩ := hvs2 i hi
      exact ⟨u, e1, ownsRow_of_blocks e2 fun k _ hkk => hk k hkk⟩
    · exact (ownsRow_mono hmid.own (by omega)).alloc o

theorem out_next {ws : List (Int × ByteArray)} {s : ByteArray} {w w0 wx w1 : World} {av au : Option Addr} {cv cu : Nat} {acc : List (List Nat)} {slot : List Nat} {fuel p j : Nat} {vs : List Value} {v' : Value} {o : Obj} (hout : OutInv ws s w w0 av cv acc fuel p) (hmid : MidInv ws s w0 wx au cu slot p j)
    (hpick : pickLens ws s p (lensOf ws) [] = some slot) (hne : slot ≠ []) (hp : p < s.size) (hpos : 0 < (W ws (slot.getD 0 0)).2.size) (hx : slot.getD 0 0 < ws.length)
    (hvs1 : w0.ownsRow (w.heap.size + 1) 66 1 (.slice av acc.length cv) acc.length vs) (hvs2 : ∀ i (h : i < acc.length), ∃ u, vs[i]? = some u ∧ OwnsNats w0 (w.heap.size + 1) u acc[i])
    (hown' : w1.ownsRow (w.heap.size + 1) 66 1 v' (acc.length + 1) (vs ++ [.slice au slot.length cu])) (hg : (wx.alloc o).grownBy w1 (Value.ownBlock (.slice av acc.length cv))) :
    ∃ av' cv', v' = .slice av' (acc ++ [slot]).length cv' ∧ OutInv ws s w w1 av' cv' (acc ++ [slot]) (fuel - 1) (p + (W ws (slot.getD 0 0)).2.size) := by
  obtain ⟨h1, h2, h3⟩ := slots_next hout hmid hvs1 hvs2 hown' hg
  obtain ⟨av', cv', rfl⟩ := ownsRow_shape hown'
  have hf := hout.fuel
  have hl := hout.len
  refine ⟨av', cv', by simp, h1, h2, by simpa using h3, ?_, by omega, hasAt_size (slotOK_first hmid.ok hne).2, by rw [List.length_append, List.length_singleton]; omega, fun k hk => ?_⟩
  · obtain ⟨f, rfl⟩ : ∃ f, fuel = f + 1 := ⟨fuel - 1, by omega⟩
    rw [Nat.add_sub_cancel, ← srcGo_step hp hpick hne]
    exact hout.eq
  · by_cases e : k < acc.length
    · rw [List.getElem_append_left e]; exact hout.ne k e
    · have e' : k = acc.length := by simp at hk; omega
      subst e'
      simp only [List.getElem_append_right (Nat.le_refl _), Nat.sub_self, List.getElem_singleton]
      exact ⟨hne, hx⟩

theorem first_empty {w : World} {base : Nat} {v : Value} (h : OwnsSlots w base v ([] ++ [[]])) : ∃ g cap a c, v = .slice (some ⟨g, 0, none⟩) 1 cap ∧ w.cell? ⟨g, 0, none⟩ = some (.slice a 0 c) := by
  obtain ⟨vs, h1, h2⟩ := h
  obtain ⟨a, cap, rfl⟩ := ownsRow_shape h1
  obtain ⟨b, A, C, Bk, hs, _⟩ := OwnsSlots.isSlots (ss := [[]]) (a := a) (cap := cap) ⟨vs, h1, h2⟩
  have e := hs.1 (by simp)
  subst e
  obtain ⟨c0, _⟩ := hs.2 0 (by simp)
  exact ⟨b, cap, A 0, C 0, rfl, by simpa using c0⟩

theorem first_some {w : World} {base : Nat} {v : Value} {ss : List (List Nat)} (h : OwnsSlots w base v ss) (h0 : 0 < ss.length) (hne : ss[0] ≠ []) :
    ∃ g cap g2 c, v = .slice (some ⟨g, 0, none⟩) ss.length cap ∧ w.cell? ⟨g, 0, none⟩ = some (.slice (some ⟨g2, 0, none⟩) ss[0].length c) ∧ w.cell? ⟨g2, 0, none⟩ = some (.int .i64 (ss[0].getD 0 0 : Nat)) := by
  obtain ⟨vs, h1, h2⟩ := h
  obtain ⟨a, cap, rfl⟩ := ownsRow_shape h1
  obtain ⟨b, A, C, Bk, hs, _⟩ := OwnsSlots.isSlots (ss := ss) (a := a) (cap := cap) ⟨vs, h1, h2⟩
  have e := hs.1 (ne_nil_of_lt h0)
  subst e
  obtain ⟨c0, c1, c2⟩ := hs.2 0 h0
  have hl : 0 < ss[0].length := by cases h3 : ss[0] with | nil => exact absurd h3 hne | cons => simp
  have c3 := c2 0 hl
  rw [c1 hne, Nat.add_zero] at c0
  refine ⟨b, cap, Bk 0, C 0, rfl, c0, ?_⟩
  rw [Nat.add_zero] at c3
  rw [c3]
  simp [List.getD, hl]

theorem src_post {ws : List (Int × ByteArray)} {s : ByteArray} {w w1 : World} {R : List (List Nat)} {v : Value} {ib : Bool} (hsome : src ws s = some R) (hin : initOf ws R = ib) (hb : Below w.heap.size w w1) (ho : OwnsSlots w1 (w.heap.size + 1) v R) (x y z : Value) :
    SrcPost ws s w (.returned (.agg #[.bool true, v, .bool ib])) (((w1.setCell ⟨w.heap.size, 0, none⟩ x).setCell ⟨w.heap.size, 1, none⟩ y).setCell ⟨w.heap.size, 2, none⟩ z) := by
  refine ⟨v, by rw [hsome, ← hin]; rfl, ((hb.setCell (by exact Nat.le_refl _) _).setCell (by exact Nat.le_refl _) _).setCell (by exact Nat.le_refl _) _, ?_⟩
  rw [hsome]
  refine (ho.of_blocks fun k hk _ => ?_).mono (Nat.le_succ _)
  rw [Deep.blk_setCell_other _ _ _ _ (by simp; omega), Deep.blk_setCell_other _ _ _ _ (by simp; omega), Deep.blk_setCell_other _ _ _ _ (by simp; omega)]

set_option maxRecDepth 100000 in
set_option maxHeartbeats 4000000 in
theorem source_calls (ws : List (Int × ByteArray)) (s : ByteArray) (a : Option Addr) (b off cap : Nat) (mb n m : Nat) (f : ByteArray → Option Value) (al : Option Addr) (bl ol cl : Nat) (w : World)
    (hw : IsOps w a b off ws) (hbw : ws ≠ [] → b < w.heap.size) (hm : MapFn Try.prog 9 w mb n m f) (hby : IsBy w ws f) (hl : IsInts w al bl ol (lensOf ws)) (hbl : lensOf ws ≠ [] → bl < w.heap.size)
    (hs : s.size ≤ 1048576) (hwl : ws.length ≤ 256) (hll : (lensOf ws).length ≤ 256) (hpos : ∀ i, i < ws.length → 0 < (W ws i).2.size) (hlb : ∀ i (h : i < (lensOf ws).length), (lensOf ws)[i] ≤ 1048576) :
    Calls Try.prog 30 #[.string s, .slice a ws.length cap, .map (some mb), .slice al (lensOf ws).length cl] w (SrcPost ws s w) := by
  obtain ⟨i3, hi3, hz3, hs3, hb3⟩ := info_parts Try.info3
  obtain ⟨i66, hi66, hz66, hs66, hb66⟩ := info_parts Try.info66
  go_enter Try.func30, Try.ntmps30
  go_wp2
  go_loopw [9, 10] (fun t9 t10 wr => ∃ fuel p acc av cv, t9 = .slice av acc.length cv ∧ t10 = .int .i64 (p : Nat) ∧ OutInv ws s w wr av cv acc fuel p) (fun _ t10 _ => s.size - (intOf t10).toNat)
  case atStart =>
    refine ⟨s.size + 1, 0, [], none, 0, rfl, rfl, ⟨(Below.refl _ _).alloc (Nat.le_refl _) _, ?_, OwnsSlots.nil _ _, rfl, by omega, by omega, by simp, by simp⟩⟩
    exact World.rowIs_alloc w _ _ _ (fun i hi => by match i, hi with | 0, _ => rfl | 1, _ => rfl | 2, _ => rfl)
  case round =>
    obtain ⟨fuel, p, acc, av, cv, rfl, rfl, hout⟩ := hrel
    obtain ⟨w0, hw0⟩ : ∃ w0, w0 = wr := ⟨_, rfl⟩
    subst hw0
    have hple := hout.le
    have hacl := hout.len
    by_cases hp : p < s.size
    · go_wp2
      go_loopw [11, 22] (fun t11 t22 wx => ∃ j slot au cu, t11 = .slice au slot.length cu ∧ t22 = .int .i64 (j : Nat) ∧ MidInv ws s w0 wx au cu slot p j) (fun _ t22 _ => (lensOf ws).length - (intOf t22).toNat)
      case atStart => exact ⟨0, [], none, 0, rfl, rfl, ⟨Below.refl _ _, World.ownsRow_nil _ _ _ _, Nat.zero_le _, rfl, by simp, by intro i hi; simp at hi⟩⟩
      case round =>
        obtain ⟨j, slot, au, cu, rfl, rfl, hmid⟩ := hrel
        obtain ⟨wx, hwx⟩ : ∃ wx, wx = wr := ⟨_, rfl⟩
        subst hwx
        have hjle := hmid.le
        by_cases hj : j < (lensOf ws).length
        · have e := hl.1 (ne_nil_of_lt hj)
          subst e
          have hlc := hl.2 j hj
          have hbel2 : Below w.heap.size w wx := hout.bel.trans (hmid.bel.mono hout.bel.size)
          have hlc' := (hbel2.cell (p := ⟨bl, ol + j, none⟩) (hbl (ne_nil_of_lt hj))).trans hlc
          have hnb := hlb j hj
          obtain ⟨nn, hnn⟩ : ∃ nn, nn = (lensOf ws)[j] := ⟨_, rfl⟩
          rw [← hnn] at hlc' hnb
          have HN : Hid (nn = (lensOf ws)[j]) := hnn
          clear hnn hlc
          by_cases hfit : s.size < p + nn
          · go_wp2
            go_roundw
            case rel => exact ⟨j + 1, slot, au, cu, rfl, by go_num, ⟨hmid.bel, hmid.own, by omega, by rw [← pickLens_skip hj (by rw [← HN.out]; exact hfit)]; exact hmid.eq, by have := hmid.len; omega, hmid.ok⟩⟩
            case measure => simp [intOf]; omega
          · have hmf : MapFn Try.prog 9 wx mb n m f := hm.of_block (hbel2.block mb hm.lt)
            obtain ⟨A, C, Bk, hget, hints, hbk⟩ := hby (s.extract p (p + nn))
            obtain ⟨is, his⟩ : ∃ is, is = idxOf ws (s.extract p (p + nn)) := ⟨_, rfl⟩
            have hisl := idxOf_length ws (s.extract p (p + nn))
            rw [← his] at hget hints hbk hisl
            have hisb : ∀ i ∈ is, i < ws.length ∧ hasAt s p (W ws i).2 = true := by
              intro i hi
              rw [his] at hi
              obtain ⟨h1, h2⟩ := mem_idxOf.1 hi
              exact ⟨h1, by rw [h2]; exact hasAt_extract s p nn (by omega)⟩
            have HISB : Hid (∀ i ∈ is, i < ws.length ∧ hasAt s p (W ws i).2 = true) := hisb
            have HIS : Hid (is = idxOf ws (s.extract p (p + nn))) := his
            clear his hisb
            go_wp2_with (at_lookup; refine wpList_lookup_fn _ rfl _ _ 65 rfl Try.underlying9 66 Try.underlying65 _ (zero66 _) mb n m f rfl hmf (s.extract p (p + nn)) rfl (by unfold maxLen; simp; omega) ?_; rw [hget])
            go_loopw [11, 41] (fun t11 t41 wy => ∃ q slot' au' cu', t11 = .slice au' slot'.length cu' ∧ t41 = .int .i64 (q : Nat) ∧ InInv ws s w0 wy au' cu' is slot slot' p q) (fun _ t41 _ => is.length - (intOf t41).toNat)
            case atStart => exact ⟨0, slot, au, cu, rfl, rfl, ⟨hmid.bel, hmid.own, Nat.zero_le _, rfl, by omega, hmid.ok⟩⟩
            case round =>
              obtain ⟨q, slot', au', cu', rfl, rfl, hin⟩ := hrel
              obtain ⟨wy, hwy⟩ : ∃ wy, wy = wr := ⟨_, rfl⟩
              subst hwy
              have hqle := hin.le
              by_cases hq : q < is.length
              · have e := hints.1 (ne_nil_of_lt hq)
                subst e
                have hbel3 : Below w.heap.size w wy := hout.bel.trans (hin.bel.mono hout.bel.size)
                have hic := (hbel3.cell (p := ⟨Bk, 0 + q, none⟩) (hbk (ne_nil_of_lt hq))).trans (hints.2 q hq)
                rw [Nat.zero_add] at hic
                obtain ⟨i, hi⟩ : ∃ i, i = is[q] := ⟨_, rfl⟩
                obtain ⟨hiw, hihas⟩ := HISB.out is[q] (List.getElem_mem hq)
                rw [← hi] at hic hiw hihas
                have HI : Hid (i = is[q]) := hi
                clear hi
                have e := hw.1 (ne_nil_of_lt hiw)
                subst e
                obtain ⟨ci0, ci1⟩ := hw.2 i hiw
                have hbb := hbw (ne_nil_of_lt hiw)
                obtain ⟨Fi, Gi, hWi⟩ : ∃ F G, W ws i = (F, G) := ⟨_, _, rfl⟩
                rw [W_eq, hWi] at ci0 ci1
                have ci0' := (hbel3.cell (p := ⟨b, off + i * 2, none⟩) hbb).trans ci0
                have ci1' := (hbel3.cell (p := ⟨b, off + i * 2 + 1, none⟩) hbb).trans ci1
                have HWi : Hid (W ws i = (Fi, Gi)) := hWi
                clear hWi ci0 ci1
                have hiI : (i : Int) < ws.length := by omega
                have hslen := hin.len
                have hslen0 := hmid.len
                have hsl2 : slot'.length < 16777216 := by omega
                by_cases hput : Fi = 2 ∧ 0 < p
                · obtain ⟨hF, hp0⟩ := hput
                  have hFb : (Fi == 2) = true := beq_iff_eq.2 hF
                  have HF : Hid (Fi = 2) := hF
                  clear hF
                  go_wp2
                  go_roundw
                  case rel => exact ⟨q + 1, slot', au', cu', rfl, by go_num, ⟨hin.bel, hin.own, by omega, by rw [← pick_skip hq ⟨by rw [← HI.out, HWi.out]; exact HF.out, hp0⟩]; exact hin.eq, by omega, hin.ok⟩⟩
                  case measure => simp [intOf]; omega
                · have HP : Hid (¬ (Fi = 2 ∧ 0 < p)) := hput
                  by_cases hF : Fi = 2
                  · have hp0 : ¬ 0 < p := fun h => hput ⟨hF, h⟩
                    have hFb : (Fi == 2) = true := beq_iff_eq.2 hF
                    clear hF hput
                    by_cases hs0 : slot' = []
                    · subst hs0
                      go_wp2
                      go_quiet (fail)
                      go_wp2_with (at_builtin; refine wpList_append_own_at _ rfl _ _ 66 rfl w0.heap.size 3 i3 (.int .i64 0) 1 8 Try.underlying66 hi3 hz3 hs3 hb3 rfl (by decide) _ _ _ rfl ((hin.own : wy.ownsRow _ _ _ _ _ _).alloc _) ⟨wy.heap.size, 0, none⟩ 1 1 [.int .i64 (i : Int)] rfl rfl (cell_one_new _ _ _) (ints_oneCell .i64 [(i : Int)]) (by unfold maxLen; omega) (by omega) (by have := hin.bel.size; simp; omega) ?_; intro v' w1 hown' hgrow hnil hloc)
                      go_roundw
                      case rel =>
                        obtain ⟨au2, cu2, hv, hin'⟩ := in_snoc hin hq HI.out hiw hihas (by rw [HWi.out]; exact HP.out) (fun h => h.1 rfl) hown' hgrow
                        exact ⟨q + 1, _, au2, cu2, hv, by go_num, hin'⟩
                      case measure => simp [intOf]; omega
                    · obtain ⟨gb, hgi, hgb⟩ := OwnsNats.isInts hin.own
                      have hl0 : 0 < slot'.length := by cases h3 : slot' with | nil => exact absurd h3 hs0 | cons => simp
                      have e := hgi.1 hs0
                      subst e
                      have c0 := hgi.2 0 hl0
                      rw [Nat.add_zero] at c0
                      obtain ⟨x0, hx0⟩ : ∃ x0, x0 = slot'[0] := ⟨_, rfl⟩
                      have hxw := (hin.ok _ (List.getElem_mem hl0)).1
                      rw [← hx0] at c0 hxw
                      have hxD : slot'.getD 0 0 = x0 := by rw [hx0]; simp [List.getD, hl0]
                      obtain ⟨cx0, cx1⟩ := hw.2 x0 hxw
                      obtain ⟨F0, G0, hWx⟩ : ∃ F G, W ws x0 = (F, G) := ⟨_, _, rfl⟩
                      rw [W_eq, hWx] at cx0 cx1
                      have cx0' := (hbel3.cell (p := ⟨b, off + x0 * 2, none⟩) hbb).trans cx0
                      have cx1' := (hbel3.cell (p := ⟨b, off + x0 * 2 + 1, none⟩) hbb).trans cx1
                      have HWx : Hid (W ws (slot'.getD 0 0) = (F0, G0)) := by rw [Hid, hxD]; exact hWx
                      clear hWx cx0 cx1 hxD hx0
                      have hxI : (x0 : Int) < ws.length := by omega
                      have hgd : (0 : Int) < slot'.length := by omega
                      by_cases heq : Fi = F0 ∧ Gi = G0
                      · obtain ⟨e1, e2⟩ := heq
                        subst e1 e2
                        go_wp2
                        go_quiet (fail)
                        go_wp2_with (at_builtin; refine wpList_append_own_at _ rfl _ _ 66 rfl w0.heap.size 3 i3 (.int .i64 0) 1 8 Try.underlying66 hi3 hz3 hs3 hb3 rfl (by decide) _ _ _ rfl ((hin.own : wy.ownsRow _ _ _ _ _ _).alloc _) ⟨wy.heap.size, 0, none⟩ 1 1 [.int .i64 (i : Int)] rfl rfl (cell_one_new _ _ _) (ints_oneCell .i64 [(i : Int)]) (by unfold maxLen; omega) (by omega) (by have := hin.bel.size; simp; omega) ?_; intro v' w1 hown' hgrow hnil hloc)
                        go_roundw
                        case rel =>
                          obtain ⟨au2, cu2, hv, hin'⟩ := in_snoc hin hq HI.out hiw hihas (by rw [HWi.out]; exact HP.out) (fun h => h.2 (by rw [HWi.out, HWx.out])) hown' hgrow
                          exact ⟨q + 1, _, au2, cu2, hv, by go_num, hin'⟩
                        case measure => simp [intOf]; omega
                      · have hneq := fun w => neq33 Fi F0 Gi G0 heq w
                        have hrow3 : wy.rowIs w.heap.size 36 3 resZero := hout.row.of_block (hin.bel.block _ hout.row.lt)
                        have r0 := hrow3.cell (i := 0) (by omega)
                        have r1 := hrow3.cell (i := 1) (by omega)
                        have r2 := hrow3.cell (i := 2) (by omega)
                        have f0 := hrow3.frozen 0
                        have f1 := hrow3.frozen 1
                        have f2 := hrow3.frozen 2
                        go_wp2
                        go_quiet (fail)
                        go_wp2
                        have hno := src_none_of hout hmid hin hp hj hfit HN.out HIS.out (pick_none hq (by rw [← HI.out, HWi.out]; exact HP.out) ⟨hs0, by rw [← HI.out, HWi.out, HWx.out]; simpa using heq⟩)
                        have hbelw := hbel3
                        obtain ⟨q0, q1, q2⟩ := row3_set (w := wy.drewN nq) hrow3 (.bool false) (.slice none 0 0) (.bool false)
                        refine bodyPost_ret (v := .agg #[.bool false, .slice none 0 0, .bool false]) (by simp [results, Try.results30, go_sem, q0, q1, q2]) rfl ?_
                        exact ⟨.slice none 0 0, by rw [hno]; rfl, (((belowDrewN hbelw nq).setCell (by exact Nat.le_refl _) _).setCell (by exact Nat.le_refl _) _).setCell (by exact Nat.le_refl _) _, by rw [hno]; exact OwnsSlots.nil _ _⟩
                  · have hFb : (Fi == 2) = false := beq_eq_false_iff_ne.2 hF
                    clear hF hput
                    by_cases hs0 : slot' = []
                    · subst hs0
                      go_wp2
                      go_quiet (fail)
                      go_wp2_with (at_builtin; refine wpList_append_own_at _ rfl _ _ 66 rfl w0.heap.size 3 i3 (.int .i64 0) 1 8 Try.underlying66 hi3 hz3 hs3 hb3 rfl (by decide) _ _ _ rfl ((hin.own : wy.ownsRow _ _ _ _ _ _).alloc _) ⟨wy.heap.size, 0, none⟩ 1 1 [.int .i64 (i : Int)] rfl rfl (cell_one_new _ _ _) (ints_oneCell .i64 [(i : Int)]) (by unfold maxLen; omega) (by omega) (by have := hin.bel.size; simp; omega) ?_; intro v' w1 hown' hgrow hnil hloc)
                      go_roundw
                      case rel =>
                        obtain ⟨au2, cu2, hv, hin'⟩ := in_snoc hin hq HI.out hiw hihas (by rw [HWi.out]; exact HP.out) (fun h => h.1 rfl) hown' hgrow
                        exact ⟨q + 1, _, au2, cu2, hv, by go_num, hin'⟩
                      case measure => simp [intOf]; omega
                    · obtain ⟨gb, hgi, hgb⟩ := OwnsNats.isInts hin.own
                      have hl0 : 0 < slot'.length := by cases h3 : slot' with | nil => exact absurd h3 hs0 | cons => simp
                      have e := hgi.1 hs0
                      subst e
                      have c0 := hgi.2 0 hl0
                      rw [Nat.add_zero] at c0
                      obtain ⟨x0, hx0⟩ : ∃ x0, x0 = slot'[0] := ⟨_, rfl⟩
                      have hxw := (hin.ok _ (List.getElem_mem hl0)).1
                      rw [← hx0] at c0 hxw
                      have hxD : slot'.getD 0 0 = x0 := by rw [hx0]; simp [List.getD, hl0]
                      obtain ⟨cx0, cx1⟩ := hw.2 x0 hxw
                      obtain ⟨F0, G0, hWx⟩ : ∃ F G, W ws x0 = (F, G) := ⟨_, _, rfl⟩
                      rw [W_eq, hWx] at cx0 cx1
                      have cx0' := (hbel3.cell (p := ⟨b, off + x0 * 2, none⟩) hbb).trans cx0
                      have cx1' := (hbel3.cell (p := ⟨b, off + x0 * 2 + 1, none⟩) hbb).trans cx1
                      have HWx : Hid (W ws (slot'.getD 0 0) = (F0, G0)) := by rw [Hid, hxD]; exact hWx
                      clear hWx cx0 cx1 hxD hx0
                      have hxI : (x0 : Int) < ws.length := by omega
                      have hgd : (0 : Int) < slot'.length := by omega
                      by_cases heq : Fi = F0 ∧ Gi = G0
                      · obtain ⟨e1, e2⟩ := heq
                        subst e1 e2
                        go_wp2
                        go_quiet (fail)
                        go_wp2_with (at_builtin; refine wpList_append_own_at _ rfl _ _ 66 rfl w0.heap.size 3 i3 (.int .i64 0) 1 8 Try.underlying66 hi3 hz3 hs3 hb3 rfl (by decide) _ _ _ rfl ((hin.own : wy.ownsRow _ _ _ _ _ _).alloc _) ⟨wy.heap.size, 0, none⟩ 1 1 [.int .i64 (i : Int)] rfl rfl (cell_one_new _ _ _) (ints_oneCell .i64 [(i : Int)]) (by unfold maxLen; omega) (by omega) (by have := hin.bel.size; simp; omega) ?_; intro v' w1 hown' hgrow hnil hloc)
                        go_roundw
                        case rel =>
                          obtain ⟨au2, cu2, hv, hin'⟩ := in_snoc hin hq HI.out hiw hihas (by rw [HWi.out]; exact HP.out) (fun h => h.2 (by rw [HWi.out, HWx.out])) hown' hgrow
                          exact ⟨q + 1, _, au2, cu2, hv, by go_num, hin'⟩
                        case measure => simp [intOf]; omega
                      · have hneq := fun w => neq33 Fi F0 Gi G0 heq w
                        have hrow3 : wy.rowIs w.heap.size 36 3 resZero := hout.row.of_block (hin.bel.block _ hout.row.lt)
                        have r0 := hrow3.cell (i := 0) (by omega)
                        have r1 := hrow3.cell (i := 1) (by omega)
                        have r2 := hrow3.cell (i := 2) (by omega)
                        have f0 := hrow3.frozen 0
                        have f1 := hrow3.frozen 1
                        have f2 := hrow3.frozen 2
                        go_wp2
                        go_quiet (fail)
                        go_wp2
                        have hno := src_none_of hout hmid hin hp hj hfit HN.out HIS.out (pick_none hq (by rw [← HI.out, HWi.out]; exact HP.out) ⟨hs0, by rw [← HI.out, HWi.out, HWx.out]; simpa using heq⟩)
                        have hbelw := hbel3
                        obtain ⟨q0, q1, q2⟩ := row3_set (w := wy.drewN nq) hrow3 (.bool false) (.slice none 0 0) (.bool false)
                        refine bodyPost_ret (v := .agg #[.bool false, .slice none 0 0, .bool false]) (by simp [results, Try.results30, go_sem, q0, q1, q2]) rfl ?_
                        exact ⟨.slice none 0 0, by rw [hno]; rfl, (((belowDrewN hbelw nq).setCell (by exact Nat.le_refl _) _).setCell (by exact Nat.le_refl _) _).setCell (by exact Nat.le_refl _) _, by rw [hno]; exact OwnsSlots.nil _ _⟩
              · have e1 := pick_end (ws := ws) (p := p) (slot := slot') hq
                rw [hin.eq] at e1
                go_wp2
                go_roundw
                case rel => exact ⟨j + 1, slot', au', cu', rfl, by go_num, mid_next hmid hin hj hfit HN.out HIS.out (by omega) e1⟩
                case measure => simp [intOf]; omega
        · have e1 := pickLens_end (ws := ws) (s := s) (p := p) (slot := slot) hj
          rw [hmid.eq] at e1
          have HE : Hid (pickLens ws s p (lensOf ws) [] = some slot) := e1
          clear e1
          obtain ⟨vs, hvs1, hvs2⟩ := hout.own
          have hbw0 : ∀ k, w.heap.size + 1 ≤ k → k < w0.heap.size → wx.heap[k]? = w0.heap[k]? := fun k _ hk => hmid.bel.block k hk
          have hvs1' := ownsRow_of_blocks hvs1 hbw0
          have hsl := hmid.len
          have hsz0 := hout.row.lt
          have hsz1 := hmid.bel.size
          by_cases hs0 : slot = []
          · subst hs0
            have hsome : src ws s = some (acc ++ [[]]) := by
              have h3 := hout.eq
              have h4 := hout.fuel
              obtain ⟨ff, rfl⟩ : ∃ ff, fuel = ff + 1 := ⟨fuel - 1, by omega⟩
              rw [srcGo_break hp HE.out] at h3
              exact h3.symm
            have HSOME : Hid (src ws s = some (acc ++ [[]])) := hsome
            clear hsome
            by_cases hacc : acc = []
            · subst hacc
              go_wp2_with (at_builtin; refine wpList_append_own_at _ rfl _ _ 34 rfl (w.heap.size + 1) 66 i66 (.slice none 0 0) 1 24 Try.underlying34 hi66 hz66 hs66 hb66 rfl (by decide) _ _ _ rfl (hvs1'.alloc _) ⟨wx.heap.size, 0, none⟩ 1 1 [.slice au 0 cu] rfl rfl (cell_one_new _ _ _) (by simp [Value.oneCell']) (by unfold maxLen; simp) (by simp) (by simp; omega) ?_; intro v' w1 hown' hgrow hnil hloc; obtain ⟨hb1, hrow1, hos1⟩ := slots_next hout hmid hvs1 hvs2 hown' hgrow; obtain ⟨gv, cv', ae, ce, hv, k0⟩ := first_empty hos1; rw [hv]; have r0 := hrow1.cell (i := 0) (by omega); have r1 := hrow1.cell (i := 1) (by omega); have r2 := hrow1.cell (i := 2) (by omega); have f0 := hrow1.frozen 0; have f1 := hrow1.frozen 1; have f2 := hrow1.frozen 2)
              obtain ⟨q0, q1, q2⟩ := row3_set hrow1 (.bool true) (.slice (some ⟨gv, 0, none⟩) 1 cv') (.bool false)
              refine bodyPost_ret (v := .agg #[.bool true, .slice (some ⟨gv, 0, none⟩) 1 cv', .bool false]) (by simp [results, Try.results30, go_sem, q0, q1, q2]) rfl ?_
              rw [← hv]
              exact src_post HSOME.out (initOf_none ws _ (by simp) (by simp)) hb1 hos1 _ _ _
            · have hl0 : 0 < acc.length := by cases h3 : acc with | nil => exact absurd h3 hacc | cons => simp
              obtain ⟨hn0, hx0⟩ := hout.ne 0 hl0
              obtain ⟨x0, hxD⟩ : ∃ x0, x0 = acc[0].getD 0 0 := ⟨_, rfl⟩
              rw [← hxD] at hx0
              obtain ⟨cx0, cx1⟩ := hw.2 x0 hx0
              obtain ⟨F0, G0, hWx⟩ : ∃ F G, W ws x0 = (F, G) := ⟨_, _, rfl⟩
              rw [W_eq, hWx] at cx0
              have hbb := hbw (ne_nil_of_lt hx0)
              have e := hw.1 (ne_nil_of_lt hx0)
              subst e
              have hRl : 0 < (acc ++ [[]]).length := by simp
              have hR0 : (acc ++ [[]])[0] = acc[0] := List.getElem_append_left hl0
              have HIN : Hid (initOf ws (acc ++ [[]]) = (F0 == 3)) := by rw [Hid, initOf_some ws _ hRl (by rw [hR0]; exact hn0), hR0, ← hxD, hWx]
              have hxI : (x0 : Int) < ws.length := by omega
              have hgd1 : ((acc.length : Int) + 1 == 0) = false := beq_eq_false_iff_ne.2 (by omega)
              have hfs : ∀ (w1 : World) v', OwnsSlots w1 (w.heap.size + 1) v' (acc ++ [[]]) → ∃ g cap g2 c, v' = .slice (some ⟨g, 0, none⟩) (acc.length + 1) cap ∧ w1.cell? ⟨g, 0, none⟩ = some (.slice (some ⟨g2, 0, none⟩) acc[0].length c) ∧ w1.cell? ⟨g2, 0, none⟩ = some (.int .i64 (x0 : Nat)) := by
                intro w1 v' h
                obtain ⟨g, cap, g2, c, h1, h2, h3⟩ := first_some h hRl (by rw [hR0]; exact hn0)
                rw [hR0] at h2 h3
                rw [← hxD] at h3
                exact ⟨g, cap, g2, c, by rw [h1]; simp, h2, h3⟩
              have hl0I : (0 : Int) < acc[0].length := by have : 0 < acc[0].length := by { cases h3 : acc[0] with | nil => exact absurd h3 hn0 | cons => simp }; omega
              clear hWx hxD hR0 hRl
              go_wp2_with (at_builtin; refine wpList_append_own_at _ rfl _ _ 34 rfl (w.heap.size + 1) 66 i66 (.slice none 0 0) 1 24 Try.underlying34 hi66 hz66 hs66 hb66 rfl (by decide) _ _ _ rfl (hvs1'.alloc _) ⟨wx.heap.size, 0, none⟩ 1 1 [.slice au 0 cu] rfl rfl (cell_one_new _ _ _) (by simp [Value.oneCell']) (by unfold maxLen; omega) (by omega) (by simp; omega) ?_; intro v' w1 hown' hgrow hnil hloc; obtain ⟨hb1, hrow1, hos1⟩ := slots_next hout hmid hvs1 hvs2 hown' hgrow; obtain ⟨gv, cv', g2, ce, hv, k0, k1⟩ := hfs w1 v' hos1; rw [hv]; have k2 := (hb1.cell (p := ⟨b, off + x0 * 2, none⟩) hbb).trans cx0; have r0 := hrow1.cell (i := 0) (by omega); have r1 := hrow1.cell (i := 1) (by omega); have r2 := hrow1.cell (i := 2) (by omega); have f0 := hrow1.frozen 0; have f1 := hrow1.frozen 1; have f2 := hrow1.frozen 2)
              obtain ⟨q0, q1, q2⟩ := row3_set hrow1 (.bool true) (.slice (some ⟨gv, 0, none⟩) (acc.length + 1) cv') (.bool (F0 == 3))
              refine bodyPost_ret (v := .agg #[.bool true, .slice (some ⟨gv, 0, none⟩) (acc.length + 1) cv', .bool (F0 == 3)]) (by simp [results, Try.results30, go_sem, q0, q1, q2]) rfl ?_
              rw [← hv]
              exact src_post HSOME.out HIN.out hb1 hos1 _ _ _
          · obtain ⟨gb, hgi, hgb⟩ := OwnsNats.isInts hmid.own
            have hl0 : 0 < slot.length := by cases h3 : slot with | nil => exact absurd h3 hs0 | cons => simp
            have e := hgi.1 hs0
            subst e
            have c0 := hgi.2 0 hl0
            rw [Nat.add_zero] at c0
            obtain ⟨x0, hx0⟩ : ∃ x0, x0 = slot[0] := ⟨_, rfl⟩
            obtain ⟨hxw, hxh, _⟩ := hmid.ok _ (List.getElem_mem hl0)
            rw [← hx0] at c0 hxw hxh
            have hxD : slot.getD 0 0 = x0 := by rw [hx0]; simp [List.getD, hl0]
            obtain ⟨cx0, cx1⟩ := hw.2 x0 hxw
            have hxp := hpos x0 hxw
            have hxs := hasAt_size hxh
            obtain ⟨F0, G0, hWx⟩ : ∃ F G, W ws x0 = (F, G) := ⟨_, _, rfl⟩
            rw [W_eq, hWx] at cx1
            rw [hWx] at hxp hxs
            dsimp only at hxp hxs
            have hbb := hbw (ne_nil_of_lt hxw)
            have e := hw.1 (ne_nil_of_lt hxw)
            subst e
            have hbel2 : Below w.heap.size w wx := hout.bel.trans (hmid.bel.mono hout.bel.size)
            have HWx : Hid (W ws (slot.getD 0 0) = (F0, G0)) := by rw [Hid, hxD]; exact hWx
            have HXD : Hid (slot.getD 0 0 = x0) := hxD
            clear hWx cx0 hxD hx0 hxh
            have hxI : (x0 : Int) < ws.length := by omega
            have hgd : (0 : Int) < slot.length := by omega
            have hgd2 : ((slot.length : Int) == 0) = false := beq_eq_false_iff_ne.2 (by omega)
            have hkeep : ∀ w1 : World, ∀ o, (wx.alloc o).grownBy w1 (Value.ownBlock (.slice av acc.length cv)) → Below w.heap.size w w1 ∧ w1.cell? ⟨gb, 0, none⟩ = some (.int .i64 (x0 : Nat)) ∧ w1.cell? ⟨b, off + x0 * 2 + 1, none⟩ = some (.string G0) := by
              intro w1 o hg
              have hb1 : Below w.heap.size w w1 := (hbel2.alloc (by omega) o).grown hg (by simp; omega) (fun k hk => by have := (hvs1.lt k hk).1; omega)
              refine ⟨hb1, ?_, (hb1.cell (p := ⟨b, _, none⟩) hbb).trans cx1⟩
              have hgb2 := hgb hs0
              refine hg.cell (a := ⟨gb, 0, none⟩) ?_ ?_
              · rw [World.cell?_alloc_lt (h := by exact hgb2.2)]
                exact c0
              · intro e1
                have := (hvs1.lt gb e1.symm).2
                omega
            go_wp2_with (at_builtin; refine wpList_append_own_at _ rfl _ _ 34 rfl (w.heap.size + 1) 66 i66 (.slice none 0 0) 1 24 Try.underlying34 hi66 hz66 hs66 hb66 rfl (by decide) _ _ _ rfl (hvs1'.alloc _) ⟨wx.heap.size, 0, none⟩ 1 1 [.slice (some ⟨gb, 0, none⟩) slot.length cu] rfl rfl (cell_one_new _ _ _) (by simp [Value.oneCell']) (by unfold maxLen; omega) (by omega) (by simp; omega) ?_; intro v' w1 hown' hgrow hnil hloc; obtain ⟨av', cv', hv⟩ := ownsRow_shape hown'; obtain ⟨hb1, k0, k1⟩ := hkeep w1 _ hgrow; rw [hv])
            go_roundw
            case rel =>
              obtain ⟨av2, cv2, hv2, hout'⟩ := out_next hout hmid HE.out hs0 hp (by rw [HWx.out]; exact hxp) (by rw [HXD.out]; exact hxw) hvs1 hvs2 hown' hgrow
              rw [← hv]
              exact ⟨fuel - 1, _, _, av2, cv2, hv2, by rw [HWx.out]; go_num, hout'⟩
            case measure => simp [intOf]; omega
    · have HSOME : Hid (src ws s = some acc) := by
        have h3 := hout.eq
        rw [srcGo_done hp] at h3
        exact h3.symm
      have hb1 := hout.bel
      have hrow1 := hout.row
      have hos1 := hout.own
      have r0 := hrow1.cell (i := 0) (by omega); have r1 := hrow1.cell (i := 1) (by omega); have r2 := hrow1.cell (i := 2) (by omega); have f0 := hrow1.frozen 0; have f1 := hrow1.frozen 1; have f2 := hrow1.frozen 2
      by_cases hacc : acc = []
      · subst hacc
        go_wp2
        obtain ⟨q0, q1, q2⟩ := row3_set hrow1 (.bool true) (.slice av 0 cv) (.bool true)
        refine bodyPost_ret (v := .agg #[.bool true, .slice av 0 cv, .bool true]) (by simp [results, Try.results30, go_sem, q0, q1, q2]) rfl ?_
        exact src_post HSOME.out rfl hb1 hos1 _ _ _
      · have hl0 : 0 < acc.length := by cases h3 : acc with | nil => exact absurd h3 hacc | cons => simp
        obtain ⟨hn0, hx0⟩ := hout.ne 0 hl0
        obtain ⟨x0, hxD⟩ : ∃ x0, x0 = acc[0].getD 0 0 := ⟨_, rfl⟩
        rw [← hxD] at hx0
        obtain ⟨cx0, cx1⟩ := hw.2 x0 hx0
        obtain ⟨F0, G0, hWx⟩ : ∃ F G, W ws x0 = (F, G) := ⟨_, _, rfl⟩
        rw [W_eq, hWx] at cx0
        have hbb := hbw (ne_nil_of_lt hx0)
        have e := hw.1 (ne_nil_of_lt hx0)
        subst e
        have HIN : Hid (initOf ws acc = (F0 == 3)) := by rw [Hid, initOf_some ws _ hl0 hn0, ← hxD, hWx]
        have hxI : (x0 : Int) < ws.length := by omega
        have hgd1 : ((acc.length : Int) == 0) = false := beq_eq_false_iff_ne.2 (by omega)
        obtain ⟨g, cap2, g2, c, hv, k0, k1⟩ := first_some hos1 hl0 hn0
        rw [← hxD] at k1
        simp only [Value.slice.injEq] at hv
        obtain ⟨rfl, _, rfl⟩ := hv
        have k2 := (hb1.cell (p := ⟨b, off + x0 * 2, none⟩) hbb).trans cx0
        have hl0I : (0 : Int) < acc[0].length := by have : 0 < acc[0].length := by { cases h3 : acc[0] with | nil => exact absurd h3 hn0 | cons => simp }; omega
        clear hWx hxD
        go_wp2
        obtain ⟨q0, q1, q2⟩ := row3_set hrow1 (.bool true) (.slice (some ⟨g, 0, none⟩) acc.length cv) (.bool (F0 == 3))
        refine bodyPost_ret (v := .agg #[.bool true, .slice (some ⟨g, 0, none⟩) acc.length cv, .bool (F0 == 3)]) (by simp [results, Try.results30, go_sem, q0, q1, q2]) rfl ?_
        exact src_post HSOME.out HIN.out hb1 hos1 _ _ _
end Go.Proofs.Qxb6604467a
