import Derived.Test.Qxb6604512aName
namespace Go.Proofs.Qxb6604512a
open Go.RowKit
set_option linter.unusedVariables false

theorem entsB_le (es : List Ent) (k : Nat) (h : k < es.length) : (entsB (es.take k)).length + (entB es[k]).length ≤ (entsB es).length := by
  have e1 : (entsB (es.take (k + 1))).length ≤ (entsB es).length := flat_take entB es (k + 1)
  have e2 := congrArg List.length (entsB_succ es k h)
  rw [List.length_append] at e2
  omega

theorem pairsB_le (ps : List (Nat × Nat)) (k : Nat) (h : k < ps.length) : (pairsB (ps.take k)).length + (pairB ps[k]).length ≤ (pairsB ps).length := by
  have e1 : (pairsB (ps.take (k + 1))).length ≤ (pairsB ps).length := flat_take pairB ps (k + 1)
  have e2 := congrArg List.length (pairsB_succ ps k h)
  rw [List.length_append] at e2
  omega

theorem entB_le (e : Ent) : (compsB e.1).length + (pairsB e.2).length ≤ (entB e).length ∧ (nameB e.1).length + (pairsB e.2).length ≤ (entB e).length := by
  have h1 := (elem_len 202 (nameB e.1 ++ pairsB e.2)).1
  have h2 := (elem_len 7 (compsB e.1)).1
  rw [List.length_append] at h1
  have e1 : (entB e).length = (elem 202 (nameB e.1 ++ pairsB e.2)).length := rfl
  have e2 : (nameB e.1).length = (elem 7 (compsB e.1)).length := rfl
  omega

theorem pairB_le (p : Nat × Nat) : (elem 212 (intB p.1) ++ elem 214 (intB p.2)).length ≤ (pairB p).length := (elem_len 210 _).1

set_option maxRecDepth 100000 in
set_option maxHeartbeats 4000000 in
theorem appendWire_calls (B n : Nat) (sv : Value) (xs : List Value) (w : World) (hown : w.ownsRow B 5 1 sv n xs) (hBw : B ≤ w.heap.size) (Bs : Nat) (vm : Value) (es : List Ent) (hcell : w.cell? ⟨Bs, 0, none⟩ = some vm)
    (hre : RE (fun b => b < w.heap.size) w vm es) (hlim : n + (entsB es).length + 36 ≤ 1407374883000) (hlen : es.length ≤ 1048576) (hbnd : ∀ e ∈ es, e.1.length ≤ 1048576 ∧ e.2.length ≤ 1048576) :
    Calls Try.prog 38 #[.pointer (some ⟨Bs, 0, none⟩), sv] w (AppPost B n xs sv (vecB es) w) := by
  obtain ⟨a, cap, rfl, hnil, hc⟩ := hre
  go_enter Try.func38, Try.ntmps38
  go_wp2
  go_loopw [5, 17] (fun t5 t17 wr => ∃ k : Nat, t17 = .int .i64 k ∧ k ≤ es.length ∧ wr.ownsRow w.heap.size 5 1 t5 (entsB (es.take k)).length (Lib.byteCells (entsB (es.take k))) ∧ Below w.heap.size w wr) (fun _ t17 _ => es.length - (intOf t17).toNat)
  case atStart => exact ⟨0, rfl, Nat.zero_le _, World.ownsRow_nil _ _ _ _, Below.refl _ _⟩
  case round =>
    obtain ⟨k, rfl, hk, hownV, hbel⟩ := hrel
    obtain ⟨w0, hw0⟩ : ∃ w0, w0 = wr := ⟨_, rfl⟩
    subst hw0
    have hs0 := hbel.size
    by_cases hlt : k < es.length
    · obtain ⟨b, off, e, ok1, h5⟩ := hc (ne_nil_of_lt hlt)
      subst e
      obtain ⟨vn, vp, h7, h8, hrc, hrp⟩ := h5 k hlt
      have h7' := (hbel.cell (p := ⟨b, off + k * 2, none⟩) ok1).trans h7
      have h8' := (hbel.cell (p := ⟨b, off + k * 2 + 1, none⟩) ok1).trans h8
      have hEB := entsB_le es k hlt
      have hEL := entB_le es[k]
      obtain ⟨hb1, hb2⟩ := hbnd es[k] (List.getElem_mem hlt)
      have HES : Hid (entsB (es.take (k + 1)) = entsB (es.take k) ++ entB es[k]) := entsB_succ es k hlt
      obtain ⟨E, hE⟩ : ∃ E, E = es[k] := ⟨_, rfl⟩
      rw [← hE] at hrc hrp hEB hEL hb1 hb2 HES
      obtain ⟨done, hdone⟩ : ∃ done, done = entsB (es.take k) := ⟨_, rfl⟩
      rw [← hdone] at hownV hEB HES
      clear hdone hE h7 h8 h5
      obtain ⟨an, cn, rfl⟩ : ∃ an cn, vn = .slice an E.1.length cn := by
        obtain ⟨av, cv, e, _⟩ := hrc
        exact ⟨av, cv, e⟩
      obtain ⟨ap, cp, rfl⟩ : ∃ ap cp, vp = .slice ap E.2.length cp := by
        obtain ⟨av, cv, e, _⟩ := hrp
        exact ⟨av, cv, e⟩
      have hbel1 : Below w.heap.size w (w0.alloc (.cells #[.slice an E.1.length cn, .slice ap E.2.length cp] 78)) := hbel.alloc hs0 _
      have hownV1 := hownV.alloc (.cells #[.slice an E.1.length cn, .slice ap E.2.length cp] 78)
      go_wp2_with fail
      have hq1 : (w0.alloc (.cells #[.slice an E.1.length cn, .slice ap E.2.length cp] 78)).cell? ⟨w0.heap.size, 1, none⟩ = some (.slice ap E.2.length cp) := by simp
      have hl1 : w0.heap.size < (w0.alloc (.cells #[.slice an E.1.length cn, .slice ap E.2.length cp] 78)).heap.size := by simp
      generalize w0.alloc (.cells #[.slice an E.1.length cn, .slice ap E.2.length cp] 78) = w1 at hbel1 hownV1 hq1 hl1 ⊢
      have hs1 := hbel1.size
      refine (nameWire_calls w1 _ E.1 (hrc.kept (fun b hb => hbel1.block b hb) (fun b hb => by omega)) (by omega) hb1).mono ?_
      rintro e w2 ⟨v8, rfl, hown8, HG8⟩
      have hbel2 : Below w1.heap.size w1 w2 := HG8.below (Nat.le_refl _) (by intro k hk; cases hk)
      have hq2 := (hbel2.cell (p := ⟨w0.heap.size, 1, none⟩) hl1).trans hq1
      rw [Nat.zero_add, List.nil_append] at hown8
      obtain ⟨aP, capP, eP, hnilP, hcP⟩ := hrp
      cases eP
      clear HG8 hq1 h7' h8'
      go_wp2_with fail
      go_loopw [8, 27] (fun t8 t27 wr => ∃ j : Nat, t27 = .int .i64 j ∧ j ≤ E.2.length ∧ wr.ownsRow w1.heap.size 5 1 t8 (nameB E.1 ++ pairsB (E.2.take j)).length (Lib.byteCells (nameB E.1 ++ pairsB (E.2.take j))) ∧ Below w1.heap.size w1 wr) (fun _ t27 _ => E.2.length - (intOf t27).toNat)
      case atStart => exact ⟨0, rfl, Nat.zero_le _, by simpa [pairsB] using hown8, hbel2⟩
      case round =>
        obtain ⟨j, rfl, hj, hown9, hbel3⟩ := hrel
        obtain ⟨w3, hw3⟩ : ∃ w3, w3 = wr := ⟨_, rfl⟩
        subst hw3
        have hs3 := hbel3.size
        by_cases hjl : j < E.2.length
        · obtain ⟨b', off', e, ok2, h6⟩ := hcP (ne_nil_of_lt hjl)
          subst e
          obtain ⟨p1, p2, c1, c2⟩ := h6 j hjl
          have hbw3 : Below w.heap.size w w3 := hbel1.trans (hbel3.mono hs1)
          have c1' := (hbw3.cell (p := ⟨b', off' + j * 2, none⟩) ok2).trans c1
          have c2' := (hbw3.cell (p := ⟨b', off' + j * 2 + 1, none⟩) ok2).trans c2
          have hPB := pairsB_le E.2 j hjl
          have hPL := pairB_le E.2[j]
          have HPS : Hid (pairsB (E.2.take (j + 1)) = pairsB (E.2.take j) ++ pairB E.2[j]) := pairsB_succ E.2 j hjl
          obtain ⟨p, hp⟩ : ∃ p, p = E.2[j] := ⟨_, rfl⟩
          rw [← hp] at p1 p2 c1' c2' hPB hPL HPS
          clear hp c1 c2 h6
          obtain ⟨dn, hdn⟩ : ∃ dn, dn = pairsB (E.2.take j) := ⟨_, rfl⟩
          rw [← hdn] at hown9 hPB HPS
          clear hdn
          go_wp2_with fail
          have hbel4 : Below w3.heap.size w3 (w3.alloc (.cells #[.int .u64 (p.1 : Int), .int .u64 (p.2 : Int)] 80)) := (Below.refl _ _).alloc (Nat.le_refl _) _
          have hq4 : (w3.alloc (.cells #[.int .u64 (p.1 : Int), .int .u64 (p.2 : Int)] 80)).cell? ⟨w3.heap.size, 1, none⟩ = some (.int .u64 (p.2 : Int)) := by simp
          have hl4 : w3.heap.size < (w3.alloc (.cells #[.int .u64 (p.1 : Int), .int .u64 (p.2 : Int)] 80)).heap.size := by simp
          generalize w3.alloc (.cells #[.int .u64 (p.1 : Int), .int .u64 (p.2 : Int)] 80) = w4 at hbel4 hq4 hl4 ⊢
          refine (intElem_calls w4.heap.size 0 212 p.1 (by omega) p1 (.slice none 0 0) [] w4 (World.ownsRow_nil _ _ _ _) (Nat.le_refl _) (by omega)).mono ?_
          rintro e w5 ⟨v5, rfl, hown5, HG5⟩
          have hbel5 : Below w4.heap.size w4 w5 := HG5.below (Nat.le_refl _) (by intro k hk; cases hk)
          have hq5 := (hbel5.cell (p := ⟨w3.heap.size, 1, none⟩) hl4).trans hq4
          have hs5 := hbel5.size
          rw [Nat.zero_add, List.nil_append] at hown5
          clear HG5 hq4
          go_wp2_with fail
          refine (intElem_calls w4.heap.size _ 214 p.2 (by omega) p2 v5 _ w5 hown5 hs5 (by rw [List.length_append] at hPL; omega)).mono ?_
          rintro e w6 ⟨v6, rfl, hown6, HG6⟩
          have hbel6 : Below w4.heap.size w4 w6 := hbel5.trans (HG6.below hs5 (fun k hk => (hown5.lt k hk).1))
          have hs6 := hbel6.size
          have hbel36 : Below w3.heap.size w3 w6 := hbel4.trans (hbel6.mono (by omega))
          have hown6' : w6.ownsRow w4.heap.size 5 1 v6 (elem 212 (intB p.1) ++ elem 214 (intB p.2)).length (Lib.byteCells (elem 212 (intB p.1) ++ elem 214 (intB p.2))) := own_cast hown6 (by simp) (by simp [bc_append])
          clear HG6 hown6 hown5
          obtain ⟨pv, hpv⟩ : ∃ pv, pv = elem 212 (intB p.1) ++ elem 214 (intB p.2) := ⟨_, rfl⟩
          have HPV : Hid (pairB p = elem 210 pv) := by rw [hpv]; rfl
          rw [← hpv] at hown6' hPL
          clear hpv
          go_wp2_with fail
          refine (elem_calls w1.heap.size _ 210 (by omega) u8 _ w6 (own_below hown9 hbel36) (by have := hbel36.size; omega) v6 pv ((RB.of_own hown6').mono ?_) (by simp; omega)).mono ?_
          · rintro b1 ⟨q1, q2, q3⟩
            refine ⟨fun e => ?_, q3⟩
            have := (hown9.lt b1 e).2
            omega
          rintro e w7 ⟨v7, rfl, hown7, HG7⟩
          have hbel7 : Below w1.heap.size w1 w7 := (hbel3.trans (hbel36.mono hs3)).trans (HG7.below (by have := hbel36.size; omega) (fun k hk => (hown9.lt k hk).1))
          have hown7' : w7.ownsRow w1.heap.size 5 1 v7 (nameB E.1 ++ pairsB (E.2.take (j + 1))).length (Lib.byteCells (nameB E.1 ++ pairsB (E.2.take (j + 1)))) := by
            rw [HPS.out, HPV.out]
            exact own_cast hown7 (by simp; omega) (by simp [bc_append])
          clear HG7 hown7
          go_wp2
          go_roundw
          case rel => exact ⟨j + 1, by go_num, by omega, hown7', hbel7⟩
          case measure => simp [intOf]; omega
        · have hjE : j = E.2.length := by omega
          rw [hjE, List.take_length] at hown9
          clear hjE
          have hownV3 : w3.ownsRow w.heap.size 5 1 u5 done.length (Lib.byteCells done) := own_below hownV1 hbel3
          have hu5 : ∀ g, u5.ownBlock = some g → g < w1.heap.size := fun g hg => (hownV1.lt g hg).2
          have hbw3 : Below w.heap.size w w3 := hbel1.trans (hbel3.mono hs1)
          obtain ⟨ev, hev⟩ : ∃ ev, ev = nameB E.1 ++ pairsB E.2 := ⟨_, rfl⟩
          have HEV : Hid (entB E = elem 202 ev) := by rw [hev]; rfl
          have hevl : ev.length ≤ (entB E).length := by rw [HEV.out]; exact (elem_len 202 ev).1
          rw [← hev] at hown9
          clear hev
          go_wp2_with fail
          refine (elem_calls w.heap.size _ 202 (by omega) u5 _ w3 hownV3 hbw3.size u8 ev ((RB.of_own hown9).mono ?_) (by omega)).mono ?_
          · rintro b1 ⟨q1, q2, q3⟩
            refine ⟨fun e => ?_, q3⟩
            have := hu5 b1 e
            omega
          rintro e w7 ⟨v7, rfl, hown7, HG7⟩
          have hbel7 : Below w.heap.size w w7 := hbw3.trans (HG7.below hbw3.size (fun k hk => (hownV1.lt k hk).1))
          have hown7' : w7.ownsRow w.heap.size 5 1 v7 (entsB (es.take (k + 1))).length (Lib.byteCells (entsB (es.take (k + 1)))) := by
            rw [HES.out, HEV.out]
            exact own_cast hown7 (by simp) (by simp [bc_append])
          clear HG7 hown7
          go_wp2
          go_roundw
          case rel => exact ⟨k + 1, by go_num, by omega, hown7', hbel7⟩
          case measure => simp [intOf]; omega
    · have hkl : k = es.length := by omega
      rw [hkl, List.take_length] at hownV
      clear hkl
      go_wp2_with fail
      refine (elem_calls B n 201 (by omega) sv xs w0 (own_below hown hbel) (by omega) u5 (entsB es) ((RB.of_own hownV).mono ?_) (by omega)).mono ?_
      · rintro b1 ⟨q1, q2, q3⟩
        refine ⟨fun e => ?_, q3⟩
        have := (hown.lt b1 e).2
        omega
      rintro e w7 ⟨v7, rfl, hown7, HG7⟩
      go_wp2
      go_ret
      exact ⟨v7, rfl, hown7, HG7.after hbel⟩

set_option maxHeartbeats 400000 in
theorem zzappendWire_calls (B n : Nat) (sv : Value) (xs : List Value) (w : World) (hown : w.ownsRow B 5 1 sv n xs) (hBw : B ≤ w.heap.size) (Bs : Nat) (vm : Value) (es : List Ent) (hcell : w.cell? ⟨Bs, 0, none⟩ = some vm)
    (hre : RE (fun b => b < w.heap.size) w vm es) (hlim : n + (entsB es).length + 36 ≤ 1407374883000) (hlen : es.length ≤ 1048576) (hbnd : ∀ e ∈ es, e.1.length ≤ 1048576 ∧ e.2.length ≤ 1048576) :
    Calls Try.prog 25 #[.pointer (some ⟨Bs, 0, none⟩), sv] w (AppPost B n xs sv (vecB es) w) := by
  go_enter Try.func25, Try.ntmps25
  go_wp2_with fail
  refine (appendWire_calls B n sv xs w hown hBw Bs vm es hcell hre hlim hlen hbnd).mono ?_
  rintro e w' ⟨v', rfl, hown', HG⟩
  go_wp2
  go_ret
  exact ⟨v', rfl, hown', HG⟩
end Go.Proofs.Qxb6604512a
