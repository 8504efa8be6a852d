import Derived.Test.Qxb6604512aSizf
namespace Go.Proofs.Qxb6604512a
open Go.RowKit
set_option linter.unusedVariables false

def LawPost (w : World) (e : Ending) (w' : World) : Prop := e = .returned (.bool true) ∧ Below w.heap.size w w'

theorem RB.fix {ok : Nat → Prop} {w : World} {a : Option Addr} {n c : Nat} {l : List UInt8} (h : RB ok w (.slice a n c) l) (hne : l ≠ []) : ∃ b off, a = some ⟨b, off, none⟩ ∧ ∀ i (h : i < l.length), w.cell? ⟨b, off + i, none⟩ = some (.int .u8 (l[i].toNat : Int)) := by
  obtain ⟨a', c', e, _, h2⟩ := h
  cases e
  obtain ⟨b, off, e, _, h3⟩ := h2 hne
  exact ⟨b, off, e, h3⟩

set_option maxRecDepth 100000 in
set_option maxHeartbeats 4000000 in
theorem law5_walk (ok : Nat → Prop) (w : World) (v vb : Value) (es : List Ent) (l : List UInt8) (h : RE ok w v es) (hl : RB ok w vb l) (hok : ∀ b, ok b → b < w.heap.size) (hlen : es.length ≤ maxLen) (hll : l.length ≤ maxLen) :
    Calls Try.prog 8 #[v, vb] w (LawPost w) := by
  obtain ⟨ae, ce, rfl⟩ : ∃ ae ce, v = .slice ae es.length ce := by
    obtain ⟨a, c, e, _⟩ := h
    exact ⟨a, c, e⟩
  obtain ⟨ab, cb, rfl⟩ : ∃ ab cb, vb = .slice ab l.length cb := by
    obtain ⟨a, c, e, _⟩ := hl
    exact ⟨a, c, e⟩
  go_enter Try.func8, Try.ntmps8
  go_wp2_with fail
  refine (zzBytes27_calls ok w _ es h hlen ab cb l hll).mono ?_
  rintro e w' ⟨r, rfl, hr, hww⟩
  have hww := hww.symm
  subst hww
  clear hww
  cases r with
  | false =>
    go_wp2
    go_ret
    exact ⟨rfl, Below.refl _ _⟩
  | true =>
    have hbd := hr rfl
    clear hr
    have hsz : Sized es := sized_of (by omega)
    have hbE := entsB_bound es
    have hbV := (elem_len 201 (entsB es)).2
    go_wp2_with fail
    refine (entriesCost_calls ok w _ es h hsz).mono ?_
    rintro e w' ⟨⟨m1, rfl⟩, hww⟩
    have hww := hww.symm
    subst hww
    clear hww
    by_cases hm1 : 1048576 < m1
    · go_wp2
      go_ret
      exact ⟨rfl, Below.refl _ _⟩
    go_wp2_with fail
    · go_ret
      exact ⟨rfl, Below.refl _ _⟩
    refine (wellFormed_calls ok w _ es h hok hsz).mono ?_
    rintro e w1 ⟨r, rfl, _, hb1⟩
    have hs1 := hb1.size
    cases r with
    | false =>
      go_wp2
      go_ret
      exact ⟨rfl, hb1⟩
    | true =>
      go_wp2_with fail
      refine (clone_calls ok w1 _ l (hl.kept (fun b hb => hb1.block b (hok b hb)) (fun _ h => h)) (fun b hb => by have := hok b hb; omega) (by omega)).mono ?_
      rintro e w2 ⟨v2, rfl, hb2, hown2⟩
      have hs2 := hb2.size
      obtain ⟨a2, c2, rfl⟩ : ∃ a2 c2, v2 = .slice a2 l.length c2 := by
        obtain ⟨a, c, e, _⟩ := RB.of_own hown2
        exact ⟨a, c, e⟩
      go_wp2_with fail
      refine (clone_calls _ w2 _ l (RB.of_own hown2) (fun b hb => hb.2.2) (by omega)).mono ?_
      rintro e w3 ⟨v3, rfl, hb3, hown3⟩
      have hs3 := hb3.size
      obtain ⟨a3, c3, rfl⟩ : ∃ a3 c3, v3 = .slice a3 l.length c3 := by
        obtain ⟨a, c, e, _⟩ := RB.of_own hown3
        exact ⟨a, c, e⟩
      have hbw3 : Below w.heap.size w w3 := hb1.trans ((hb2.mono hs1).trans (hb3.mono (by omega)))
      go_wp2_with fail
      refine (build_calls ok w3 _ es (h.kept (fun b hb => hbw3.block b (hok b hb)) (fun _ h => h)) (fun b hb => by have := hok b hb; omega) hsz).mono ?_
      rintro e w4 ⟨Bs, vm, rfl, hb4, hcell, hre, hBs⟩
      have hs4 := hb4.size
      have hBs4 := World.block_lt_of_cell? w4 _ hcell
      have hBs1 : w3.heap.size ≤ Bs := by omega
      clear hBs
      have hown2' := own_below hown2 (hb3.trans (hb4.mono hs3))
      have hlt2 : ∀ g, (Value.slice a2 l.length c2).ownBlock = some g → w1.heap.size ≤ g ∧ g < w2.heap.size := hown2.lt
      go_wp2_with fail
      refine (zzappendWire_calls w1.heap.size l.length _ _ w4 hown2' (by omega) Bs vm es hcell (hre.kept (fun _ _ => rfl) (fun b hb => hb.2)) (by omega) hsz.1 (fun e he => ⟨(hsz.2 e he).1, (hsz.2 e he).2.1⟩)).mono ?_
      rintro e w5 ⟨v8, rfl, hown8, HG8⟩
      have hs5 := HG8.grown.size
      have hk5 : ∀ b, w2.heap.size ≤ b → b < w4.heap.size → w5.heap[b]? = w4.heap[b]? := fun b h1 h2 => HG8.grown.block b h2 (fun e => by have := (hlt2 b e.symm).2; omega)
      have hcell5 := (World.cell?_of_block (a := ⟨Bs, 0, none⟩) (hk5 Bs (by omega) hBs4)).trans hcell
      have hre5 := hre.kept (ok' := fun b => b < w5.heap.size) (fun b hb => hk5 b (by omega) hb.2) (fun b hb => by omega)
      have hown8' : w5.ownsRow w1.heap.size 5 1 v8 (l ++ vecB es).length (Lib.byteCells (l ++ vecB es)) := own_cast hown8 (by simp) (by simp [bc_append])
      have hb45 : Below w1.heap.size w4 w5 := HG8.below (by omega) (fun k hk => (hlt2 k hk).1)
      have hbw5 : Below w.heap.size w w5 := (hbw3.trans (hb4.mono (by omega))).trans (hb45.mono (by omega))
      have hdis : (Value.slice a3 l.length c3).ownBlock = none ∨ (Value.slice a3 l.length c3).ownBlock ≠ (Value.slice a2 l.length c2).ownBlock := by
        cases a3 with
        | none => exact .inl rfl
        | some x =>
          refine .inr fun e => ?_
          have h1 := (hown3.lt x.block rfl).1
          have h2 := (hlt2 x.block (by rw [← e]; rfl)).2
          omega
      have hown3' : w5.ownsRow w2.heap.size 5 1 (.slice a3 l.length c3) l.length (Lib.byteCells l) := (own_below hown3 hb4).kept HG8.grown hdis
      obtain ⟨a8, c8, rfl⟩ : ∃ a8 c8, v8 = .slice a8 (l ++ vecB es).length c8 := by
        obtain ⟨a, c, e, _⟩ := RB.of_own hown8'
        exact ⟨a, c, e⟩
      clear hown8 HG8 hk5 hb45 hown2 hown2' hown3
      go_wp2_with fail
      refine (zzappendWire_calls w5.heap.size 0 (.slice none 0 0) [] w5 (World.ownsRow_nil _ _ _ _) (Nat.le_refl _) Bs vm es hcell5 hre5 (by omega) hsz.1 (fun e he => ⟨(hsz.2 e he).1, (hsz.2 e he).2.1⟩)).mono ?_
      rintro e w6 ⟨v9, rfl, hown9, HG9⟩
      rw [Nat.zero_add, List.nil_append] at hown9
      have hb6 : Below w5.heap.size w5 w6 := HG9.below (Nat.le_refl _) (by intro k hk; cases hk)
      have hbw6 : Below w.heap.size w w6 := hbw5.trans (hb6.mono hbw5.size)
      obtain ⟨a9, c9, rfl⟩ : ∃ a9 c9, v9 = .slice a9 (vecB es).length c9 := by
        obtain ⟨a, c, e, _⟩ := RB.of_own hown9
        exact ⟨a, c, e⟩
      go_wp2_with fail
      refine (wireSize_calls ok w6 _ es (h.kept (fun b hb => hbw6.block b (hok b hb)) (fun _ h => h)) hsz (by omega)).mono ?_
      rintro e w7 ⟨rfl, m7, rfl⟩
      have hvl : (vecB es).length ≤ 100000000 := by
        have e : (vecB es).length = (elem 201 (entsB es)).length := rfl
        omega
      have r8 := RB.of_own (own_below hown8' hb6)
      have r3 := RB.of_own (own_below hown3' hb6)
      have r9 := RB.of_own hown9
      generalize vecB es = V at *
      clear hre hre5 hcell hcell5 hown9 HG9 hown8' hown3' hsz hbE hbV h hl
      have hL : (l ++ V).length = l.length + V.length := List.length_append
      go_wp2
      go_loopw [11] (fun t wr => ∃ (k n : Nat), t = .int .i64 k ∧ k ≤ l.length ∧ wr = w6.drewN n) (fun t _ => l.length - (intOf t).toNat)
      case atStart => exact ⟨0, m7, rfl, Nat.zero_le _, rfl⟩
      case round =>
        obtain ⟨k, n, rfl, hk, rfl⟩ := hrel
        by_cases hlt : k < l.length
        · obtain ⟨b8, o8, e8, h8⟩ := r8.fix (ne_nil_of_lt (show k < (l ++ V).length by omega))
          obtain ⟨b3, o3, e3, h3⟩ := r3.fix (ne_nil_of_lt hlt)
          subst e8
          subst e3
          have d1 := h8 k (by omega)
          have d2 := h3 k hlt
          rw [List.getElem_append_left hlt] at d1
          have hI1 : (k : Int) < l.length + V.length := by omega
          have hI2 : (k : Int) < l.length := by omega
          clear h8 h3 r8 r3 r9 hlt2 hdis hok
          go_wp2
          go_quiet (fail)
          go_wp2
          go_roundw
          case rel => exact ⟨k + 1, n + nq, by go_num, by omega, by simp⟩
          case measure => simp [intOf]; omega
        · go_wp2
          go_loopw [12] (fun t wr => ∃ (k n : Nat), t = .int .i64 k ∧ k ≤ V.length ∧ wr = w6.drewN n) (fun t _ => V.length - (intOf t).toNat)
          case atStart => exact ⟨0, n, rfl, Nat.zero_le _, rfl⟩
          case round =>
            obtain ⟨j, n', rfl, hj, rfl⟩ := hrel
            by_cases hjl : j < V.length
            · obtain ⟨b8, o8, e8, h8⟩ := r8.fix (ne_nil_of_lt (show l.length + j < (l ++ V).length by omega))
              obtain ⟨b9, o9, e9, h9⟩ := r9.fix (ne_nil_of_lt hjl)
              subst e8
              subst e9
              have d1 : w6.cell? ⟨b8, o8 + (l.length + j), none⟩ = some (.int .u8 (V[j].toNat : Int)) := by
                have d0 := h8 (l.length + j) (by omega)
                rw [List.getElem_append_right (by omega)] at d0
                simpa using d0
              have d2 := h9 j hjl
              have hI1 : (l.length : Int) + j < l.length + V.length := by omega
              have hI2 : (j : Int) < V.length := by omega
              obtain ⟨q, hq⟩ : ∃ q : Nat, q = l.length + j := ⟨_, rfl⟩
              have hqI : (l.length : Int) + j = (q : Int) := by omega
              have hqw : IntKind.i64.wrap (q : Int) = (q : Int) := by rw [IntKind.wrap_i64]; omega
              have hI3 : (q : Int) < l.length + V.length := by omega
              rw [← hq] at d1
              clear h8 h9 r8 r3 r9 hlt2 hdis hok hI1 hq
              go_wp2
              go_quiet (fail)
              go_wp2
              go_roundw
              case rel => exact ⟨j + 1, n' + nq, by go_num, by omega, by simp⟩
              case measure => simp [intOf]; omega
            · go_wp2
              go_ret
              exact ⟨rfl, belowDrewN hbw6 _⟩
end Go.Proofs.Qxb6604512a
