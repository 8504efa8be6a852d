import Derived.Test.Qxb6604512aMtn
namespace Go.Proofs.Qxb6604512a
open Go.RowKit
set_option linter.unusedVariables false

theorem pairsB_part (ps : List (Nat × Nat)) (k : Nat) (h : k < ps.length) : pairsB ps = pairsB (ps.take k) ++ pairB ps[k] ++ pairsB (ps.drop (k + 1)) := by
  conv => lhs; rw [← List.take_append_drop (k + 1) ps]
  rw [pairsB, List.map_append, List.flatten_append]
  exact congrArg (· ++ pairsB (ps.drop (k + 1))) (pairsB_succ ps k h)

theorem entsB_part (es : List Ent) (k : Nat) (h : k < es.length) : entsB es = entsB (es.take k) ++ entB es[k] ++ entsB (es.drop (k + 1)) := by
  conv => lhs; rw [← List.take_append_drop (k + 1) es]
  rw [entsB, List.map_append, List.flatten_append]
  exact congrArg (· ++ entsB (es.drop (k + 1))) (entsB_succ es k h)

/-- what one round of the members' loop reads -/
structure EntRound (w : World) (b off cap N vs k : Nat) (es : List Ent) (X : Ent) (p s ee q : Nat) : Prop where
  hp : p = vs + (entsB (es.take k)).length
  hee : ee = vs + (entsB (es.take (k + 1))).length
  lt : p < ee
  le : ee ≤ N
  call1 : ∀ w', Below w.heap.size w w' → Calls Try.prog 35 #[.slice (some ⟨b, off, none⟩) N cap, .int .i64 (p : Int)] w' (ElemPost 202 s ee w')
  call2 : ∀ (ok : Nat → Prop) w' vn, Below w.heap.size w w' → RC ok w' vn X.1 → Calls Try.prog 20 #[.slice (some ⟨b, off, none⟩) ee cap, .int .i64 (s : Int), vn] w' (MatchPost q w')
  call3 : ∀ j (hj : j < X.2.length) w', Below w.heap.size w w' → Calls Try.prog 39 #[.slice (some ⟨b, off, none⟩) ee cap, .int .i64 ((q + (pairsB (X.2.take j)).length : Nat) : Int), .agg #[.int .u64 (X.2[j].1 : Int), .int .u64 (X.2[j].2 : Int)]] w' (MatchPost (q + (pairsB (X.2.take (j + 1))).length) w')
  fin : ee = q + (pairsB X.2).length

theorem below_lt {B : Nat} {w w' : World} (h : Below B w w') {b : Nat} (hb : b < w.heap.size) : b < w'.heap.size := Nat.lt_of_lt_of_le hb h.size

theorem entRound (w : World) (b off cap : Nat) (L P0 : List UInt8) (es : List Ent) (hL : L = P0 ++ entsB es) (hc : Cells w b off L) (hb : b < w.heap.size) (hlen : L.length ≤ 1407374883553) (hcap : L.length ≤ cap) (k : Nat) (hk : k < es.length) (hz1 : es[k].1.length ≤ 1048576)
    (hpb : ∀ j (h : j < es[k].2.length), es[k].2[j].1 < 18446744073709551616 ∧ es[k].2[j].2 < 18446744073709551616) :
    ∃ p s ee q, EntRound w b off cap L.length P0.length k es es[k] p s ee q := by
  have hpart := entsB_part es k hk
  have hsucc := entsB_succ es k hk
  generalize es[k] = X at *
  obtain ⟨M, hM⟩ : ∃ M, M = nameB X.1 ++ pairsB X.2 := ⟨_, rfl⟩
  have hE : entB X = elem 202 M := by rw [hM, entB]
  rw [hE] at hpart hsucc
  obtain ⟨P, hP⟩ : ∃ P, P = P0 ++ entsB (es.take k) := ⟨_, rfl⟩
  have d1 : L = P ++ elem 202 M ++ entsB (es.drop (k + 1)) := by rw [hL, hpart, hP]; simp only [List.append_assoc]
  obtain ⟨L1, hL1⟩ : ∃ L1, L1 = P ++ elem 202 M := ⟨_, rfl⟩
  have hLL : L = L1 ++ entsB (es.drop (k + 1)) := by rw [d1, hL1]
  obtain ⟨S, hS⟩ : ∃ S, S = P ++ headB 202 M := ⟨_, rfl⟩
  have d2 : L1 = S ++ nameB X.1 ++ pairsB X.2 := by rw [hL1, hS, elem_head 202 M, hM]; simp only [List.append_assoc]
  obtain ⟨Q, hQ⟩ : ∃ Q, Q = S ++ nameB X.1 := ⟨_, rfl⟩
  have d3 : L1 = Q ++ pairsB X.2 := by rw [d2, hQ]
  have hc1 := hc.front hLL
  have hl1 : L1.length ≤ L.length := by rw [hLL, lenApp]; exact Nat.le_add_right _ _
  have e1 : P.length = P0.length + (entsB (es.take k)).length := by rw [hP, lenApp]
  have e2 : P.length + headLen 202 M = S.length := by rw [hS, lenApp, headB_len]
  have e3 : P.length + (elem 202 M).length = L1.length := by rw [hL1, lenApp]
  have e4 : L1.length = P0.length + (entsB (es.take (k + 1))).length := by rw [hsucc, ← e3, e1, lenApp, Nat.add_assoc]
  have e5 : S.length + (nameB X.1).length = Q.length := by rw [hQ, lenApp]
  refine ⟨P.length, S.length, L1.length, Q.length, ⟨e1, e4, ?_, hl1, ?_, ?_, ?_, ?_⟩⟩
  · have := elem_pos 202 M
    rw [← e3]
    exact Nat.lt_add_of_pos_right this
  · intro w' hw'
    have := readElem_calls w' b off cap L P (entsB (es.drop (k + 1))) M 202 d1 (hc.below hb hw') (by omega) hlen
    rw [e2, e3] at this
    exact this
  · intro ok w' vn hw' hn
    have := matchName_calls ok w' b off cap L1 S (pairsB X.2) X.1 vn d2 (hc1.below hb hw') hn (by omega) (by omega) hz1
    rw [e5] at this
    exact this
  · intro j hj w' hw'
    have f1 : L1 = (Q ++ pairsB (X.2.take j)) ++ pairB X.2[j] ++ pairsB (X.2.drop (j + 1)) := by rw [d3, pairsB_part X.2 j hj]; simp only [List.append_assoc]
    have := matchPair_calls w' b off cap L1 (Q ++ pairsB (X.2.take j)) (pairsB (X.2.drop (j + 1))) X.2[j] f1 (hc1.below hb hw') (below_lt hw' hb) (hpb j hj) (by omega) (by omega)
    rw [lenApp, Nat.add_assoc, ← lenApp (pairsB (X.2.take j)), ← pairsB_succ X.2 j hj] at this
    exact this
  · rw [d3, lenApp]

set_option maxRecDepth 100000 in
set_option maxHeartbeats 4000000 in
theorem matchVec_calls (ok : Nat → Prop) (w : World) (b off cap : Nat) (L : List UInt8) (es : List Ent) (v : Value) (hL : L = vecB es) (hc : Cells w b off L) (hb : b < w.heap.size) (he : RE ok w v es) (hok : ∀ b, ok b → b < w.heap.size) (hlen : L.length ≤ 1407374883553) (hcap : L.length ≤ cap) (hsz : Sized es) :
    Calls Try.prog 26 #[.slice (some ⟨b, off, none⟩) L.length cap, v] w (fun e w' => e = .returned (.bool true) ∧ Below w.heap.size w w') := by
  obtain ⟨M, hM⟩ : ∃ M, M = entsB es := ⟨_, rfl⟩
  have hvb : vecB es = elem 201 M := by rw [hM, vecB]
  rw [hvb] at hL
  have d0 : L = [] ++ elem 201 M ++ [] := by rw [hL]; simp only [List.nil_append, List.append_nil]
  have call1 := readElem_calls w b off cap L [] [] M 201 d0 hc (by omega) hlen
  obtain ⟨P0, hP0⟩ : ∃ P0, P0 = headB 201 M := ⟨_, rfl⟩
  have d1 : L = P0 ++ entsB es := by rw [hL, hP0, elem_head 201 M, hM]
  obtain ⟨ae, ce, rfl, hne, hce⟩ := he
  have hrp : ∀ k (hk : k < es.length), ∃ vp, RP ok w vp es[k].2 := fun k hk => by
    obtain ⟨be, oe, _, _, h5⟩ := hce (ne_nil_of_lt hk)
    obtain ⟨_, vp, _, _, _, h6⟩ := h5 k hk
    exact ⟨vp, h6⟩
  have CR : Hid (∀ k (hk : k < es.length), ∃ p s ee q, EntRound w b off cap L.length P0.length k es es[k] p s ee q) := fun k hk => by
    refine entRound w b off cap L P0 es d1 hc hb hlen hcap k hk (hsz.2 _ (List.getElem_mem hk)).1 ?_
    obtain ⟨vp, a, c, _, _, h2⟩ := hrp k hk
    intro i hi
    obtain ⟨_, _, _, _, h3⟩ := h2 (ne_nil_of_lt hi)
    exact ⟨(h3 i hi).1, (h3 i hi).2.1⟩
  have e1 : List.length ([] : List UInt8) + headLen 201 M = P0.length := by rw [hP0, headB_len, List.length_nil, Nat.zero_add]
  have e2 : List.length ([] : List UInt8) + (elem 201 M).length = L.length := by rw [hL, List.length_nil, Nat.zero_add]
  have e3 : L.length = P0.length + (entsB es).length := by rw [d1, lenApp]
  rw [e1, e2] at call1
  have hl0 : ((List.length ([] : List UInt8) : Nat) : Int) = 0 := rfl
  rw [hl0] at call1
  have hz := hsz.1
  have HZ : Hid (∀ e ∈ es, e.1.length ≤ 1048576 ∧ e.2.length ≤ 1048576) := fun e he => ⟨(hsz.2 e he).1, (hsz.2 e he).2.1⟩
  clear e1 e2 hl0 hL hc hvb d0 d1 hP0 hM hrp hsz
  generalize L.length = N at *
  generalize P0.length = vs at *
  have HE : Hid (N = vs + (entsB es).length) := e3
  clear e3
  have i0 : ((N : Int) != (N : Int)) = false := by simp
  go_enter Try.func26, Try.ntmps26
  go_wp2_with fail
  refine call1.mono ?_
  rintro e w2 ⟨rfl, hww⟩
  have hww := hww.symm
  subst hww
  clear hww
  go_wp2
  go_loopw [9, 10] (fun s9 s10 wr => ∃ k p : Nat, s10 = .int .i64 k ∧ k ≤ es.length ∧ s9 = .int .i64 (p : Int) ∧ Hid (p = vs + (entsB (es.take k)).length) ∧ Below w.heap.size w wr) (fun _ s10 _ => es.length - (intOf s10).toNat)
  case atStart => exact ⟨0, vs, rfl, Nat.zero_le _, rfl, by show vs = _; simp [entsB], Below.refl _ _⟩
  case round =>
    obtain ⟨k, p, rfl, hk, rfl, HPP, hbel⟩ := hrel
    obtain ⟨w0, hw0⟩ : ∃ w0, w0 = wr := ⟨_, rfl⟩
    subst hw0
    have hs0 := hbel.size
    by_cases hlt : k < es.length
    · obtain ⟨p', s, ee, q, R⟩ := CR.out k hlt
      obtain rfl : p = p' := HPP.out.trans R.hp.symm
      obtain ⟨lx, lp⟩ := HZ.out _ (List.getElem_mem hlt)
      have hev := R.le
      obtain ⟨be, oe, e, okb, h5⟩ := hce (ne_nil_of_lt hlt)
      subst e
      obtain ⟨vn, vp, c1, c2, hrc, hrp⟩ := h5 k hlt
      have hbe := hok _ okb
      have HEE : Hid (ee = vs + (entsB (es.take (k + 1))).length) := R.hee
      have HFI : Hid (ee = q + (pairsB es[k].2).length) := R.fin
      have call2 := R.call1 w0 hbel
      have g1 := (hbel.cell (p := ⟨be, oe + k * 2, none⟩) hbe).trans c1
      have g2 := (hbel.cell (p := ⟨be, oe + k * 2 + 1, none⟩) hbe).trans c2
      have call3 := R.call2 ok w0 vn hbel (hrc.kept (fun b hb => hbel.block b (hok b hb)) (fun _ h => h))
      have C3 : Hid (∀ j (hj : j < es[k].2.length) w', Below w.heap.size w w' → Calls Try.prog 39 #[.slice (some ⟨b, off, none⟩) ee cap, .int .i64 ((q + (pairsB (es[k].2.take j)).length : Nat) : Int), .agg #[.int .u64 (es[k].2[j].1 : Int), .int .u64 (es[k].2[j].2 : Int)]] w' (MatchPost (q + (pairsB (es[k].2.take (j + 1))).length) w')) := R.call3
      have hIk : (k : Int) < es.length := by omega
      have h1 : (ee : Int) ≤ cap := by omega
      clear R h5 hrc c1
      generalize es[k].2 = X at *
      obtain ⟨ap, cp, rfl, hnp, hcp⟩ := hrp
      go_wp2_with fail
      refine call2.mono ?_
      rintro e w3 ⟨rfl, hww⟩
      have hww := hww.symm
      subst hww
      clear hww
      go_wp2_with fail
      refine call3.mono ?_
      rintro e w4 ⟨rfl, hb4⟩
      have hbw4 : Below w.heap.size w w4 := hbel.trans (hb4.mono hs0)
      have g3 := (hbw4.cell (p := ⟨be, oe + k * 2 + 1, none⟩) hbe).trans c2
      clear call2 call3 hnp g1 g2
      go_wp2
      go_loopw [16, 19] (fun s16 s19 wr => ∃ j t : Nat, s19 = .int .i64 j ∧ j ≤ X.length ∧ s16 = .int .i64 (t : Int) ∧ Hid (t = q + (pairsB (X.take j)).length) ∧ Below w.heap.size w wr) (fun _ s19 _ => X.length - (intOf s19).toNat)
      case atStart => exact ⟨0, q, rfl, Nat.zero_le _, rfl, by show q = _; simp [pairsB], hbw4⟩
      case round =>
        obtain ⟨j, t, rfl, hj, rfl, HT, hbel5⟩ := hrel
        obtain ⟨w5, hw5⟩ : ∃ w5, w5 = wr := ⟨_, rfl⟩
        subst hw5
        have hs5 := hbel5.size
        by_cases hjl : j < X.length
        · obtain ⟨bp, op, e, okp, h6⟩ := hcp (ne_nil_of_lt hjl)
          subst e
          obtain ⟨_, _, f1, f2⟩ := h6 j hjl
          have hbp := hok _ okp
          have m1 := (hbel5.cell (p := ⟨bp, op + j * 2, none⟩) hbp).trans f1
          have m2 := (hbel5.cell (p := ⟨bp, op + j * 2 + 1, none⟩) hbp).trans f2
          have call4 := C3.out j hjl w5 hbel5
          rw [← HT.out] at call4
          obtain ⟨t', ht'⟩ : ∃ t', t' = q + (pairsB (X.take (j + 1))).length := ⟨_, rfl⟩
          rw [← ht'] at call4
          have HT' : Hid (t' = q + (pairsB (X.take (j + 1))).length) := ht'
          have hIj : (j : Int) < X.length := by omega
          generalize (X[j].1 : Int) = x1 at call4 m1
          generalize (X[j].2 : Int) = x2 at call4 m2
          clear h6 f1 f2 ht' HT
          go_wp2_with fail
          refine call4.mono ?_
          rintro e w6 ⟨rfl, hb6⟩
          go_wp2
          go_roundw
          case rel => exact ⟨j + 1, t', by go_num, by omega, rfl, HT', hbel5.trans (hb6.mono hs5)⟩
          case measure => simp [intOf]; omega
        · have hjx : j = X.length := by omega
          have hte : t = ee := by rw [HT.out, HFI.out, hjx, List.take_length]
          subst hte
          have i5 : ((t : Int) != (t : Int)) = false := by simp
          clear hjx HT HFI
          go_wp2
          go_roundw
          case rel => exact ⟨k + 1, t, by go_num, by omega, rfl, HEE, hbel5⟩
          case measure => simp [intOf]; omega
    · have hke : k = es.length := by omega
      have hpe : p = N := by rw [HPP.out, HE.out, hke, List.take_length]
      subst hpe
      have i5 : ((p : Int) == (p : Int)) = true := by simp
      clear hke HPP HE
      go_wp2
      go_ret
      exact ⟨rfl, hbel⟩
end Go.Proofs.Qxb6604512a
