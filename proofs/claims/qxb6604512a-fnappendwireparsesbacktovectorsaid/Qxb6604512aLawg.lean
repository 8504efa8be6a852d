import Derived.Test.Qxb6604512aMtv
namespace Go.Proofs.Qxb6604512a
open Go.RowKit
set_option linter.unusedVariables false

def LawPostG (w : World) (e : Ending) (w' : World) : Prop := e = .returned (.bool true) ∧ Below w.heap.size w w'

theorem RB.at {ok : Nat → Prop} {w : World} {a : Option Addr} {n c : Nat} {l : List UInt8} (h : RB ok w (.slice a n c) l) (hne : l ≠ []) : ∃ b off, a = some ⟨b, off, none⟩ ∧ ∀ i (h : i < l.length), w.cell? ⟨b, off + i, none⟩ = some (.int .u8 (l[i].toNat : Int)) := by
  obtain ⟨a', c', e, _, h2⟩ := h
  cases e
  obtain ⟨b, off, e, _, h3⟩ := h2 hne
  exact ⟨b, off, e, h3⟩

/-- an own row of bytes that is not empty -/
theorem own_open {w : World} {B : Nat} {v : Value} {l : List UInt8} (h : w.ownsRow B 5 1 v l.length (Lib.byteCells l)) (hne : 1 ≤ l.length) : ∃ g cap, v = .slice (some ⟨g, 0, none⟩) l.length cap ∧ g < w.heap.size ∧ l.length ≤ cap ∧ Cells w g 0 l := by
  have hr := RB.of_own h
  have hlt := h.lt
  obtain ⟨_, ⟨rfl, h0⟩ | ⟨g, cap, cur, rfl, hg, hb, hn, _⟩⟩ := id h
  · omega
  · refine ⟨g, cap, rfl, (hlt g rfl).2, hn, ?_⟩
    obtain ⟨b, off, e, h3⟩ := hr.at (by intro e; subst e; simp at hne)
    cases e
    exact h3

set_option maxRecDepth 100000 in
set_option maxHeartbeats 4000000 in
theorem law7_walk (ok : Nat → Prop) (w : World) (v vb : Value) (es : List Ent) (l : List UInt8) (h : RE ok w v es) (hl : RB ok w vb l) (hok : ∀ b, ok b → b < w.heap.size) (hlen : es.length ≤ maxLen) (hll : l.length ≤ maxLen) :
    Calls Try.prog 7 #[v, vb] w (LawPostG w) := by
  obtain ⟨ae, ce, rfl⟩ : ∃ ae ce, v = .slice ae es.length ce := by
    obtain ⟨a, c, e, _⟩ := h
    exact ⟨a, c, e⟩
  obtain ⟨ab, cb, rfl⟩ : ∃ ab cb, vb = .slice ab l.length cb := by
    obtain ⟨a, c, e, _⟩ := hl
    exact ⟨a, c, e⟩
  go_enter Try.func7, Try.ntmps7
  go_wp2_with fail
  refine (zzBytes23_calls ok w _ es h hlen ab cb l hll).mono ?_
  rintro e w' ⟨r, rfl, hr, hww⟩
  have hww := hww.symm
  subst hww
  clear hww
  cases r with
  | false =>
    go_wp2
    go_ret
    exact ⟨rfl, Below.refl _ _⟩
  | true =>
    have hbd := hr rfl
    clear hr
    have hsz : Sized es := sized_of (by omega)
    have hbE := entsB_bound es
    have hbV := (elem_len 201 (entsB es)).2
    go_wp2_with fail
    refine (entriesCost_calls ok w _ es h hsz).mono ?_
    rintro e w' ⟨⟨m1, rfl⟩, hww⟩
    have hww := hww.symm
    subst hww
    clear hww
    by_cases hm1 : 1048576 < m1
    · go_wp2
      go_ret
      exact ⟨rfl, Below.refl _ _⟩
    go_wp2_with fail
    · go_ret
      exact ⟨rfl, Below.refl _ _⟩
    refine (wellFormed_calls ok w _ es h hok hsz).mono ?_
    rintro e w1 ⟨r, rfl, _, hb1⟩
    have hs1 := hb1.size
    cases r with
    | false =>
      go_wp2
      go_ret
      exact ⟨rfl, hb1⟩
    | true =>
      go_wp2_with fail
      refine (clone_calls ok w1 _ l (hl.kept (fun b hb => hb1.block b (hok b hb)) (fun _ h => h)) (fun b hb => by have := hok b hb; omega) (by omega)).mono ?_
      rintro e w2 ⟨v2, rfl, hb2, hown2⟩
      have hs2 := hb2.size
      obtain ⟨a2, c2, rfl⟩ : ∃ a2 c2, v2 = .slice a2 l.length c2 := by
        obtain ⟨a, c, e, _⟩ := RB.of_own hown2
        exact ⟨a, c, e⟩
      go_wp2_with fail
      refine (clone_calls _ w2 _ l (RB.of_own hown2) (fun b hb => hb.2.2) (by omega)).mono ?_
      rintro e w3 ⟨v3, rfl, hb3, hown3⟩
      have hs3 := hb3.size
      obtain ⟨a3, c3, rfl⟩ : ∃ a3 c3, v3 = .slice a3 l.length c3 := by
        obtain ⟨a, c, e, _⟩ := RB.of_own hown3
        exact ⟨a, c, e⟩
      have hbw3 : Below w.heap.size w w3 := hb1.trans ((hb2.mono hs1).trans (hb3.mono (by omega)))
      go_wp2_with fail
      refine (build_calls ok w3 _ es (h.kept (fun b hb => hbw3.block b (hok b hb)) (fun _ h => h)) (fun b hb => by have := hok b hb; omega) hsz).mono ?_
      rintro e w4 ⟨Bs, vm, rfl, hb4, hcell, hre, hBs⟩
      have hs4 := hb4.size
      have hBs4 := World.block_lt_of_cell? w4 _ hcell
      have hBs1 : w3.heap.size ≤ Bs := by omega
      clear hBs
      have hown2' := own_below hown2 (hb3.trans (hb4.mono hs3))
      have hlt2 : ∀ g, (Value.slice a2 l.length c2).ownBlock = some g → w1.heap.size ≤ g ∧ g < w2.heap.size := hown2.lt
      go_wp2_with fail
      refine (zzappendWire_calls w1.heap.size l.length _ _ w4 hown2' (by omega) Bs vm es hcell (hre.kept (fun _ _ => rfl) (fun b hb => hb.2)) (by omega) hsz.1 (fun e he => ⟨(hsz.2 e he).1, (hsz.2 e he).2.1⟩)).mono ?_
      rintro e w5 ⟨v8, rfl, hown8, HG8⟩
      have hs5 := HG8.grown.size
      have hown8' : w5.ownsRow w1.heap.size 5 1 v8 (l ++ vecB es).length (Lib.byteCells (l ++ vecB es)) := own_cast hown8 (by simp) (by simp [bc_append])
      have hb45 : Below w1.heap.size w4 w5 := HG8.below (by omega) (fun k hk => (hlt2 k hk).1)
      have hbw5 : Below w.heap.size w w5 := (hbw3.trans (hb4.mono (by omega))).trans (hb45.mono (by omega))
      have hsw5 := hbw5.size
      have hdis : (Value.slice a3 l.length c3).ownBlock = none ∨ (Value.slice a3 l.length c3).ownBlock ≠ (Value.slice a2 l.length c2).ownBlock := by
        cases a3 with
        | none => exact .inl rfl
        | some x =>
          refine .inr fun e => ?_
          have h1 := (hown3.lt x.block rfl).1
          have h2 := (hlt2 x.block (by rw [← e]; rfl)).2
          omega
      have hown3' : w5.ownsRow w2.heap.size 5 1 (.slice a3 l.length c3) l.length (Lib.byteCells l) := (own_below hown3 hb4).kept HG8.grown hdis
      have hVpos : 1 ≤ (vecB es).length := elem_pos 201 (entsB es)
      have hvl : (vecB es).length ≤ 100000000 := by
        have e : (vecB es).length = (elem 201 (entsB es)).length := rfl
        omega
      have hL : (l ++ vecB es).length = l.length + (vecB es).length := List.length_append
      obtain ⟨g, cap, rfl, hg, hcap, hcells⟩ := own_open hown8' (by omega)
      have hsub : Cells w5 g (0 + l.length) (vecB es) := hcells.sub (pre := l) (X := vecB es) (post := []) (by simp)
      have hcall := fun n => matchVec_calls ok (w5.drewN n) g (0 + l.length) (cap - l.length) (vecB es) es (.slice ae es.length ce) rfl (hsub.same (fun _ => rfl)) hg (h.kept (fun b hb => hbw5.block b (hok b hb)) (fun _ h => h)) (fun b hb => by have := hok b hb; show b < w5.heap.size; omega) (by omega) (by omega) hsz
      have r3 := RB.of_own hown3'
      generalize vecB es = V at *
      clear hre hcell hown8' hown3' hown8 HG8 hsz hbE hbV h hl hown2 hown2' hown3 hb45
      rw [hL] at hcap ⊢
      have hcells' : Hid (Cells w5 g 0 (l ++ V)) := hcells
      clear hcells hsub
      go_wp2
      go_loopw [9] (fun t wr => ∃ (k n : Nat), t = .int .i64 k ∧ k ≤ l.length ∧ wr = w5.drewN n) (fun t _ => l.length - (intOf t).toNat)
      case atStart => exact ⟨0, 0, rfl, Nat.zero_le _, rfl⟩
      case round =>
        obtain ⟨k, n, rfl, hk, rfl⟩ := hrel
        by_cases hlt : k < l.length
        · obtain ⟨b3, o3, e3, h3⟩ := r3.at (ne_nil_of_lt hlt)
          subst e3
          have d1 := hcells'.out k (by omega)
          have d2 := h3 k hlt
          rw [List.getElem_append_left hlt, Nat.zero_add] at d1
          have hI1 : (k : Int) < l.length + V.length := by omega
          have hI2 : (k : Int) < l.length := by omega
          clear h3 r3 hlt2 hdis hok hcall hL
          go_wp2
          go_quiet (fail)
          go_wp2
          go_roundw
          case rel => exact ⟨k + 1, n + nq, by go_num, by omega, by simp⟩
          case measure => simp [intOf]; omega
        · have k1 : ¬ cap = l.length := by omega
          have k2 : ¬ l.length = cap := by omega
          have k3 : l.length + V.length - l.length = V.length := by omega
          have k4 : (l.length : Int) ≤ l.length + V.length := by omega
          have hc2 := hcall n
          rw [Nat.zero_add] at hc2
          clear hcall hlt2 hdis hok r3 hL
          go_wp2_with fail
          refine hc2.mono ?_
          rintro e w6 ⟨rfl, hb6⟩
          go_wp2
          go_ret
          exact ⟨rfl, (belowDrewN hbw5 n).trans (hb6.mono hsw5)⟩
end Go.Proofs.Qxb6604512a
