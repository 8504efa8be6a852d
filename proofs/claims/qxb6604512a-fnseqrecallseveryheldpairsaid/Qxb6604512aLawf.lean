import Derived.Test.Qxb6604512aSeqq
namespace Go.Proofs.Qxb6604512a
open Go.RowKit
set_option linter.unusedVariables false

def LawPostF (w : World) (e : Ending) (w' : World) : Prop := e = .returned (.bool true) ∧ Below w.heap.size w w'

theorem RP.bound {ok : Nat → Prop} {w : World} {v : Value} {ps : List (Nat × Nat)} (h : RP ok w v ps) : ∀ i (hi : i < ps.length), ps[i].1 < 18446744073709551616 ∧ ps[i].2 < 18446744073709551616 := by
  obtain ⟨a, c, _, _, h2⟩ := h
  intro i hi
  obtain ⟨b, off, _, _, h3⟩ := h2 (ne_nil_of_lt hi)
  exact ⟨(h3 i hi).1, (h3 i hi).2.1⟩

set_option maxRecDepth 100000 in
set_option maxHeartbeats 4000000 in
theorem law6_walk (ok : Nat → Prop) (w : World) (v : Value) (es : List Ent) (h : RE ok w v es) (hok : ∀ b, ok b → b < w.heap.size) (hlen : es.length ≤ maxLen) :
    Calls Try.prog 4 #[v] w (LawPostF w) := by
  obtain ⟨ae, ce, rfl⟩ : ∃ ae ce, v = .slice ae es.length ce := by
    obtain ⟨a, c, e, _⟩ := h
    exact ⟨a, c, e⟩
  go_enter Try.func4, Try.ntmps4
  go_wp2_with fail
  refine (zzBytes17_calls ok w _ es h hlen).mono ?_
  rintro e w' ⟨r, rfl, hr, hww⟩
  have hww := hww.symm
  subst hww
  clear hww
  cases r with
  | false =>
    go_wp2
    go_ret
    exact ⟨rfl, Below.refl _ _⟩
  | true =>
    have hbd := hr rfl
    clear hr
    have hsz : Sized es := sized_of (by omega)
    go_wp2_with fail
    refine (entriesCost_calls ok w _ es h hsz).mono ?_
    rintro e w' ⟨⟨m1, rfl⟩, hww⟩
    have hww := hww.symm
    subst hww
    clear hww
    by_cases hm1 : 1048576 < m1
    · go_wp2
      go_ret
      exact ⟨rfl, Below.refl _ _⟩
    go_wp2_with fail
    refine (wellFormed_calls ok w _ es h hok hsz).mono ?_
    rintro e w1 ⟨r, rfl, hwf, hb1⟩
    have hs1 := hb1.size
    cases r with
    | false =>
      go_wp2
      go_ret
      exact ⟨rfl, hb1⟩
    | true =>
      have CW : Hid (WF es) := hwf rfl
      clear hwf
      go_wp2_with fail
      refine (build_calls ok w1 _ es (h.kept (fun b hb => hb1.block b (hok b hb)) (fun _ h => h)) (fun b hb => by have := hok b hb; omega) hsz).mono ?_
      rintro e w2 ⟨Bs, vm, rfl, hb2, hcell, hre, hBs⟩
      have hs2 := hb2.size
      have hBs2 := World.block_lt_of_cell? w2 _ hcell
      clear hBs
      have hbw2 : Below w.heap.size w w2 := hb1.trans (hb2.mono hs1)
      have hl1 := hsz.1
      have CR : Hid (RE (fun b => w1.heap.size < b ∧ b < w2.heap.size) w2 vm es) := hre
      have CC : Hid (w2.cell? ⟨Bs, 0, none⟩ = some vm) := hcell
      have CS : Hid (Sized es) := hsz
      clear hre hcell
      go_wp2
      go_loopw [4] (fun t wr => ∃ (k : Nat), t = .int .i64 k ∧ k ≤ es.length ∧ Below w2.heap.size w2 wr) (fun t _ => es.length - (intOf t).toNat)
      case atStart => exact ⟨0, rfl, Nat.zero_le _, Below.refl _ _⟩
      case round =>
        obtain ⟨k, rfl, hk, hbel⟩ := hrel
        obtain ⟨w0, hw0⟩ : ∃ w0, w0 = wr := ⟨_, rfl⟩
        subst hw0
        have hs0 := hbel.size
        have hbw0 : Below w.heap.size w w0 := hbw2.trans (hbel.mono (by omega))
        by_cases hlt : k < es.length
        · obtain ⟨_, _, e, hn, hc⟩ := h
          cases e
          obtain ⟨b, off, e, okb, hcc⟩ := hc (ne_nil_of_lt hlt)
          subst e
          have hb := hok _ okb
          obtain ⟨vn, vp, c1, c2, hrc, hrp⟩ := hcc k hlt
          obtain ⟨lx, lp, lv⟩ := CS.out.2 _ (List.getElem_mem hlt)
          have hIL : (k : Int) < es.length := by omega
          have d1 := (hbw0.cell (p := ⟨b, off + k * 2, none⟩) hb).trans c1
          clear hcc hc hn
          go_wp2_with fail
          refine (split_calls ok w0 vn es[k].1 (hrc.kept (fun b hb => hbw0.block b (hok b hb)) (fun _ h => h)) (fun b hb => by have := hok b hb; have := hbw0.size; omega) lx lv).mono ?_
          rintro e w3 ⟨vt, vv, rfl, hb3, hrt⟩
          have hs3 := hb3.size
          have hbw3 : Below w.heap.size w w3 := hbw0.trans (hb3.mono hbw0.size)
          have hb23 : Below w2.heap.size w2 w3 := hbel.trans (hb3.mono hs0)
          have d2 := (hbw3.cell (p := ⟨b, off + k * 2 + 1, none⟩) hb).trans c2
          have CT : Hid (∀ (wz : World) (bt p : Nat), Below w3.heap.size w3 wz → p ≤ es[k].2.length → (∀ t (h : t < es[k].2.length), t < p → es[k].2[t].1 < bt) → (∀ t (h : t < es[k].2.length), p ≤ t → bt ≤ es[k].2[t].1) →
              Calls Try.prog 15 #[.pointer (some ⟨Bs, 0, none⟩), vt, vv, .int .u64 (bt : Int)] wz (SeqPost (lookAt es[k].2 p bt) wz)) := by
            intro wz bt p hbz hp h1 h2
            have hsz' := hbz.size
            refine zzseq_calls (fun b => (w1.heap.size < b ∧ b < w2.heap.size) ∨ (w0.heap.size ≤ b ∧ b < w3.heap.size)) wz Bs vm vt vv es k bt p ?_ ?_ hlt ?_ ?_ CS.out CW.out hp h1 h2
            · exact ((hb23.trans (hbz.mono (by omega))).cell (p := ⟨Bs, 0, none⟩) hBs2).trans CC.out
            · exact CR.out.kept (fun b hb => (hb23.trans (hbz.mono (by omega))).block b hb.2) (fun b hb => .inl hb)
            · exact hrt.kept (fun b hb => hbz.block b hb.2) (fun b hb => .inr hb)
            · intro b hb
              rcases hb with hb | hb <;> omega
          have CB : Hid (∀ j i (hi : i < es[k].2.length) (hj : j < es[k].2.length), i < j → es[k].2[i].1 < es[k].2[j].1) := fun j i hi hj hij => CW.out.boots k hlt j i hij hj
          have CN := hrp.bound
          have hrp3 := hrp.kept (ok' := ok) (fun b hb => hbw3.block b (hok b hb)) (fun _ h => h)
          generalize es[k].2 = P at CT CB CN hrp3 lp
          obtain ⟨ap, cp, rfl, hnp, hcp⟩ := hrp3
          obtain ⟨a1, n1, q1, a2, n2, q2, rfl, rfl⟩ : ∃ a1 n1 q1 a2 n2 q2, vt = .slice a1 n1 q1 ∧ vv = .slice a2 n2 q2 := by
            obtain ⟨a1, c1, a2, c2, e1, e2, _⟩ := hrt
            exact ⟨a1, _, c1, a2, _, c2, e1, e2⟩
          clear hrp hrc hrt CW CR CC CS c1 c2 d1 hnp
          go_wp2
          go_loopw [8] (fun t wr => ∃ (j : Nat), t = .int .i64 j ∧ j ≤ P.length ∧ Below w3.heap.size w3 wr) (fun t _ => P.length - (intOf t).toNat)
          case atStart => exact ⟨0, rfl, Nat.zero_le _, Below.refl _ _⟩
          case round =>
            obtain ⟨j, rfl, hj, hbel4⟩ := hrel
            obtain ⟨w4, hw4⟩ : ∃ w4, w4 = wr := ⟨_, rfl⟩
            subst hw4
            have hs4 := hbel4.size
            have hbw4 : Below w.heap.size w w4 := hbw3.trans (hbel4.mono hbw3.size)
            by_cases hjl : j < P.length
            · obtain ⟨bp, op, e, okp, hcc⟩ := hcp (ne_nil_of_lt hjl)
              subst e
              have hbp : bp < w3.heap.size := by have := hok _ okp; have := hbw3.size; omega
              obtain ⟨bx, by_, c1, c2⟩ := hcc j hjl
              have HX1 : Hid (∀ wz, Below w3.heap.size w3 wz → Calls Try.prog 15 #[.pointer (some ⟨Bs, 0, none⟩), .slice a1 n1 q1, .slice a2 n2 q2, .int .u64 (P[j].1 : Int)] wz (SeqPost P[j].2 wz)) := by
                intro wz hbz
                have := CT.out wz P[j].1 j hbz (by omega) (fun t h h' => CB.out j t h hjl h') (fun t h h' => by
                  by_cases e : j = t
                  · subst e; exact Nat.le_refl _
                  · exact Nat.le_of_lt (CB.out t j hjl h (by omega)))
                rwa [lookAt, dif_pos hjl, if_pos rfl] at this
              have HX2 : Hid (∀ wz, Below w3.heap.size w3 wz → (∀ h : j + 1 < P.length, P[j + 1].1 ≠ P[j].1 + 1) → Calls Try.prog 15 #[.pointer (some ⟨Bs, 0, none⟩), .slice a1 n1 q1, .slice a2 n2 q2, .int .u64 ((P[j].1 : Int) + 1)] wz (SeqPost 0 wz)) := by
                intro wz hbz hne
                have := CT.out wz (P[j].1 + 1) (j + 1) hbz (by omega) (fun t h h' => by
                  by_cases e : t = j
                  · subst e; omega
                  · have := CB.out j t h hjl (by omega); omega) (fun t h h' => CB.out t j hjl h (by omega))
                rw [Int.natCast_add, Int.natCast_one] at this
                have e0 : lookAt P (j + 1) (P[j].1 + 1) = 0 := by
                  rw [lookAt]
                  by_cases hq : j + 1 < P.length
                  · rw [dif_pos hq, if_neg (hne hq)]
                  · rw [dif_neg hq]
                rwa [e0] at this
              have d3 := (hbel4.cell (p := ⟨bp, op + j * 2, none⟩) hbp).trans c1
              have d4 := (hbel4.cell (p := ⟨bp, op + j * 2 + 1, none⟩) hbp).trans c2
              have hIj : (j : Int) < P.length := by omega
              have hnext : Hid (∀ h : j + 1 < P.length, w3.cell? ⟨bp, op + (j + 1) * 2, none⟩ = some (.int .u64 (P[j + 1].1 : Int))) := fun h => (hcc (j + 1) h).2.2.1
              generalize P[j].1 = x at HX1 HX2 d3 c1 bx
              generalize P[j].2 = y at HX1 d4 c2 by_
              have hcall := HX1.out (w4.drewN 1) (belowDrewN hbel4 1)
              have hyy : ((y : Int) != (y : Int)) = false := by simp
              clear hcp hcc CN CT CB HX1
              go_wp2
              go_region_held3 (fun w' => w'.cell? ⟨bp, op + j * 2, none⟩ = some (.int .u64 (x : Int)) ∧ w'.cell? ⟨bp, op + j * 2 + 1, none⟩ = some (.int .u64 (y : Int))) (first | (go_keep; done) | exact ⟨(hb'.cell (p := ⟨bp, op + j * 2, none⟩) hbp).trans c1, (hb'.cell (p := ⟨bp, op + j * 2 + 1, none⟩) hbp).trans c2⟩ | fail) (first
                | (go_at_call 15; refine hcall.mono ?_; rintro e w5 ⟨rfl, hb5⟩; have hb' : Below w3.heap.size w3 w5 := (belowDrewN hbel4 1).trans (hb5.mono hs4))
                | fail)
              have f1 := (hb'.cell (p := ⟨bp, op + j * 2, none⟩) hbp).trans c1
              have hs5 := hb'.size
              by_cases c0 : x + 1 = 18446744073709551616
              · have hwz : IntKind.u64.wrap ((x : Int) + 1) = 0 := by rw [IntKind.wrap_u64]; omega
                clear HX2 hnext c0
                go_wp2
                go_roundw
                case rel => exact ⟨j + 1, by go_num, by omega, hb'⟩
                case measure => simp [intOf]; omega
              · have hx1 : (x : Int) + 1 < 18446744073709551616 := by omega
                have hnz : (((x : Int) + 1) != 0) = true := by simp; omega
                clear c0
                by_cases c2 : j + 1 < P.length
                · have g1 := (hb'.cell (p := ⟨bp, op + (j + 1) * 2, none⟩) hbp).trans (hnext.out c2)
                  have hq : Hid (P[j + 1].1 ≠ x + 1 → ∀ h : j + 1 < P.length, P[j + 1].1 ≠ x + 1) := fun h _ => h
                  generalize P[j + 1].1 = z at g1 hq HX2
                  obtain ⟨q, hqd⟩ : ∃ q : Nat, q = j + 1 := ⟨_, rfl⟩
                  have hqI : (j : Int) + 1 = (q : Int) := by omega
                  have hqw : IntKind.i64.wrap (q : Int) = (q : Int) := by rw [IntKind.wrap_i64]; omega
                  have hne : ((q : Int) == (P.length : Int)) = false := by simp; omega
                  have hj1 : (q : Int) < P.length := by omega
                  rw [← hqd] at g1
                  have HQ : Hid (q = j + 1) := hqd
                  clear hqd
                  by_cases c3 : z = x + 1
                  · have hz : ((z : Int) != (x : Int) + 1) = false := by simp; omega
                    clear HX2 hnext hq c3
                    go_wp2
                    go_roundw
                    case rel => exact ⟨q, rfl, by omega, hb'⟩
                    case measure => have := HQ.out; simp [intOf]; omega
                  · have hz : ((z : Int) != (x : Int) + 1) = true := by simp; omega
                    have hcall2 := HX2.out w5 hb' (hq.out c3)
                    clear HX2 hnext hq c3
                    go_wp2_with fail
                    refine hcall2.mono ?_
                    rintro e w6 ⟨rfl, hb6⟩
                    have hb6' : Below w3.heap.size w3 w6 := hb'.trans (hb6.mono hs5)
                    go_wp2
                    go_roundw
                    case rel => exact ⟨q, rfl, by omega, hb6'⟩
                    case measure => have := HQ.out; simp [intOf]; omega
                · have he : ((j : Int) + 1 == (P.length : Int)) = true := by simp; omega
                  have hcall2 := HX2.out w5 hb' (fun h => absurd h c2)
                  clear HX2 hnext
                  go_wp2_with fail
                  refine hcall2.mono ?_
                  rintro e w6 ⟨rfl, hb6⟩
                  have hb6' : Below w3.heap.size w3 w6 := hb'.trans (hb6.mono hs5)
                  go_wp2
                  go_roundw
                  case rel => exact ⟨j + 1, by go_num, by omega, hb6'⟩
                  case measure => simp [intOf]; omega
            · go_wp2
              go_roundw
              case rel => exact ⟨k + 1, by go_num, by omega, hb23.trans (hbel4.mono (by omega))⟩
              case measure => simp [intOf]; omega
        · go_wp2
          go_ret
          exact ⟨rfl, hbw0⟩
end Go.Proofs.Qxb6604512a
