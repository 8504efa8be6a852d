import Derived.Test.Qxb6604512aMtp
namespace Go.Proofs.Qxb6604512a
open Go.RowKit
set_option linter.unusedVariables false

theorem lenApp (x y : List UInt8) : (x ++ y).length = x.length + y.length := List.length_append

theorem elem_pos (t : Nat) (l : List UInt8) : 1 ≤ (elem t l).length := by
  have h := varNum_pos t
  rw [elem_length, headLen]
  revert h
  generalize (varNum t).length = A
  generalize (varNum l.length).length = B
  intro h
  omega

theorem compsB_part (cs : List (Nat × List UInt8)) (k : Nat) (h : k < cs.length) : compsB cs = compsB (cs.take k) ++ elem cs[k].1 cs[k].2 ++ compsB (cs.drop (k + 1)) := by
  conv => lhs; rw [← List.take_append_drop (k + 1) cs]
  rw [compsB, List.map_append, List.flatten_append]
  exact congrArg (· ++ compsB (cs.drop (k + 1))) (compsB_succ cs k h)

/-- what one round of the names' loop reads -/
structure NameRound (w : World) (b off cap ve : Nat) (vs k : Nat) (cs : List (Nat × List UInt8)) (hk : k < cs.length) (p q r : Nat) : Prop where
  hp : p = vs + (compsB (cs.take k)).length
  hr : r = vs + (compsB (cs.take (k + 1))).length
  lt : p < r
  le : r ≤ ve
  len : r = q + cs[k].2.length
  call : ∀ w', (∀ a : Addr, w'.cell? a = w.cell? a) → Calls Try.prog 35 #[.slice (some ⟨b, off, none⟩) ve cap, .int .i64 (p : Int)] w' (ElemPost cs[k].1 q r w')
  cells : Cells w b (off + q) cs[k].2

theorem Cells.same {w w' : World} {b off : Nat} {L : List UInt8} (h : Cells w b off L) (hw : ∀ a : Addr, w'.cell? a = w.cell? a) : Cells w' b off L := fun i hi => (hw _).trans (h i hi)

theorem nameRound (w : World) (b off cap : Nat) (L1 P1 : List UInt8) (cs : List (Nat × List UInt8)) (hL : L1 = P1 ++ compsB cs) (hc : Cells w b off L1) (hlen : L1.length ≤ 1407374883553) (hct : ∀ i (h : i < cs.length), cs[i].1 < 18446744073709551616) (k : Nat) (hk : k < cs.length) :
    ∃ p q r, NameRound w b off cap L1.length P1.length k cs hk p q r := by
  have hpart := compsB_part cs k hk
  have d1 : L1 = (P1 ++ compsB (cs.take k)) ++ elem cs[k].1 cs[k].2 ++ compsB (cs.drop (k + 1)) := by rw [hL, hpart]; simp only [List.append_assoc]
  have d2 : L1 = ((P1 ++ compsB (cs.take k)) ++ headB cs[k].1 cs[k].2) ++ cs[k].2 ++ compsB (cs.drop (k + 1)) := by rw [d1, elem_head]; simp only [List.append_assoc]
  have s1 := hc.sub d2
  have e1 : (P1 ++ compsB (cs.take k)).length = P1.length + (compsB (cs.take k)).length := by rw [List.length_append]
  have e2 : (P1 ++ compsB (cs.take k)).length + headLen cs[k].1 cs[k].2 = ((P1 ++ compsB (cs.take k)) ++ headB cs[k].1 cs[k].2).length := by rw [lenApp (P1 ++ compsB (cs.take k)) (headB cs[k].1 cs[k].2), headB_len]
  have e3 : (P1 ++ compsB (cs.take k)).length + (elem cs[k].1 cs[k].2).length = P1.length + (compsB (cs.take (k + 1))).length := by rw [compsB_succ cs k hk, List.length_append, List.length_append, Nat.add_assoc]
  have e4 : (P1 ++ compsB (cs.take k)).length + (elem cs[k].1 cs[k].2).length = ((P1 ++ compsB (cs.take k)) ++ headB cs[k].1 cs[k].2).length + cs[k].2.length := by rw [← e2, elem_length, Nat.add_assoc]
  have e5 : (P1 ++ compsB (cs.take k)).length + (elem cs[k].1 cs[k].2).length ≤ L1.length := by
    rw [d1, lenApp _ (compsB (cs.drop (k + 1))), lenApp _ (elem cs[k].1 cs[k].2)]
    exact Nat.le_add_right _ _
  have h1 := elem_pos cs[k].1 cs[k].2
  refine ⟨_, _, _, ⟨e1, e3, ?_, e5, e4, ?_, s1⟩⟩
  · exact Nat.lt_add_of_pos_right h1
  · intro w' hw'
    have := readElem_calls w' b off cap L1 (P1 ++ compsB (cs.take k)) (compsB (cs.drop (k + 1))) cs[k].2 cs[k].1 d1 (hc.same hw') (hct k hk) hlen
    rw [e2] at this
    exact this

set_option maxRecDepth 100000 in
set_option maxHeartbeats 4000000 in
theorem matchName_calls (ok : Nat → Prop) (w : World) (b off cap : Nat) (L pre post : List UInt8) (cs : List (Nat × List UInt8)) (vn : Value) (hL : L = pre ++ nameB cs ++ post) (hc : Cells w b off L) (hn : RC ok w vn cs) (hlen : L.length ≤ 1407374883553) (hcap : L.length ≤ cap) (hcl : cs.length ≤ 1048576) :
    Calls Try.prog 20 #[.slice (some ⟨b, off, none⟩) L.length cap, .int .i64 (pre.length : Int), vn] w (MatchPost (pre.length + (nameB cs).length) w) := by
  obtain ⟨M, hM⟩ : ∃ M, M = compsB cs := ⟨_, rfl⟩
  have hnb : nameB cs = elem 7 M := by rw [hM, nameB]
  rw [hnb] at hL ⊢
  have call1 := readElem_calls w b off cap L pre post M 7 hL hc (by omega) hlen
  obtain ⟨L1, hL1⟩ : ∃ L1, L1 = pre ++ elem 7 M := ⟨_, rfl⟩
  have hLL : L = L1 ++ post := by rw [hL, hL1]
  have hc2 := hc.front hLL
  have hl1 : L1.length ≤ L.length := by rw [hLL, List.length_append]; omega
  obtain ⟨P1, hP1⟩ : ∃ P1, P1 = pre ++ headB 7 M := ⟨_, rfl⟩
  have d1 : L1 = P1 ++ compsB cs := by rw [hL1, hP1, elem_head 7 M, hM]; simp only [List.append_assoc]
  obtain ⟨an, cn, rfl, hnn, hcn⟩ := hn
  have hct : ∀ i (h : i < cs.length), cs[i].1 < 18446744073709551616 := fun i hi => by
    obtain ⟨bn, on, _, _, h5⟩ := hcn (ne_nil_of_lt hi)
    exact (h5 i hi).1
  have CR : Hid (∀ k (hk : k < cs.length), ∃ p q r, NameRound w b off cap L1.length P1.length k cs hk p q r) := nameRound w b off cap L1 P1 cs d1 hc2 (by omega) hct
  have e1 : pre.length + headLen 7 M = P1.length := by rw [hP1, List.length_append, headB_len]
  have e2 : pre.length + (elem 7 M).length = L1.length := by rw [hL1, List.length_append]
  have e3 : L1.length = P1.length + (compsB cs).length := by rw [d1, List.length_append]
  rw [e1, e2] at call1
  rw [e2]
  clear e1 e2 hL hLL hc hc2 hnb hL1 hP1 hM d1
  generalize L1.length = ve at *
  generalize P1.length = vs at *
  generalize L.length = N at *
  generalize pre.length = i at *
  have h1 : (ve : Int) ≤ cap := by omega
  have HE : Hid (ve = vs + (compsB cs).length) := e3
  clear e3
  go_enter Try.func20, Try.ntmps20
  go_wp2_with fail
  refine call1.mono ?_
  rintro e w2 ⟨rfl, hww⟩
  have hww := hww.symm
  subst hww
  clear hww
  go_wp2
  go_loopw [13, 14] (fun s13 s14 wr => ∃ k n p : Nat, s14 = .int .i64 k ∧ k ≤ cs.length ∧ s13 = .int .i64 (p : Int) ∧ Hid (p = vs + (compsB (cs.take k)).length) ∧ wr = w.drewN n) (fun _ s14 _ => cs.length - (intOf s14).toNat)
  case atStart => exact ⟨0, 0, vs, rfl, Nat.zero_le _, rfl, by show vs = _; simp [compsB], rfl⟩
  case round =>
    obtain ⟨k, n, p, rfl, hk, rfl, HPP, rfl⟩ := hrel
    by_cases hlt : k < cs.length
    · obtain ⟨p', q, r, R⟩ := CR.out k hlt
      obtain rfl : p = p' := HPP.out.trans R.hp.symm
      have hpr := R.lt
      have hrv := R.le
      have HLen : Hid (r = q + cs[k].2.length) := R.len
      have HR : Hid (r = vs + (compsB (cs.take (k + 1))).length) := R.hr
      have hpI : (p : Int) < ve := by omega
      obtain ⟨bn, on, e, okn, h5⟩ := hcn (ne_nil_of_lt hlt)
      subst e
      obtain ⟨_, g1, vv, g2, hrb⟩ := h5 k hlt
      have call2 := R.call (w.drewN n) (fun _ => rfl)
      have hcells : Cells (w.drewN n) b (off + q) cs[k].2 := R.cells
      have hrb' : RB ok (w.drewN n) vv cs[k].2 := hrb.kept (fun _ _ => rfl) (fun _ h => h)
      have g1' : (w.drewN n).cell? ⟨bn, on + k * 2, none⟩ = some (.int .u64 (cs[k].1 : Int)) := g1
      have g2' : (w.drewN n).cell? ⟨bn, on + k * 2 + 1, none⟩ = some vv := g2
      have hIk : (k : Int) < cs.length := by omega
      clear R h5 g1 g2 hrb HPP
      generalize hw0 : w.drewN n = w0 at *
      have HW : Hid (w.drewN n = w0) := hw0
      clear hw0
      generalize cs[k] = c at *
      obtain ⟨cx, cl⟩ := c
      simp only at *
      have i1 : ((cx : Int) != (cx : Int)) = false := by simp
      have hql : q + cl.length = r := HLen.out.symm
      obtain ⟨av, cv, rfl⟩ : ∃ av cv, vv = .slice av cl.length cv := by
        obtain ⟨a, c, e, _⟩ := hrb'
        exact ⟨a, c, e⟩
      have k3 : r - q = cl.length := by omega
      have k7 : (q : Int) ≤ r := by omega
      have k8 : (r : Int) ≤ cap := by omega
      by_cases hq : cap = q
      · subst hq
        have e0 : cl = [] := List.eq_nil_of_length_eq_zero (by omega)
        have hcall : ∀ m, Calls Try.prog 36 #[.slice (some ⟨b, off, none⟩) cl.length 0, .slice av cl.length cv] (w0.drewN m) (fun e w' => e = .returned (.bool true) ∧ ∃ m', w' = (w0.drewN m).drewN m') := fun m =>
          bytesEq_calls ok ok (w0.drewN m) _ _ cl ⟨_, _, rfl, by simp, fun h => absurd e0 h⟩ (hrb'.kept (fun _ _ => rfl) (fun _ h => h)) (by omega)
        generalize cl.length = la at *
        clear hcells hrb' hql e0
        go_wp2_with fail
        refine call2.mono ?_
        rintro e w3 ⟨rfl, hww⟩
        have hww := hww.symm
        subst hww
        clear hww
        go_wp2
        go_quiet (first | (go_at_call 36; with_reducible exact Calls.quiet_of (hcall _)) | fail)
        go_wp2
        go_roundw
        case rel => exact ⟨k + 1, n + nq, r, by go_num, by omega, rfl, HR, by rw [← HW.out, World.drewN_drewN]⟩
        case measure => simp [intOf]; omega
      · have k4 : ¬ q = cap := fun h => hq h.symm
        have hcall : ∀ m, Calls Try.prog 36 #[.slice (some ⟨b, off + q, none⟩) cl.length (cap - q), .slice av cl.length cv] (w0.drewN m) (fun e w' => e = .returned (.bool true) ∧ ∃ m', w' = (w0.drewN m).drewN m') := fun m =>
          bytesEq_calls (fun _ => True) ok (w0.drewN m) _ _ cl ⟨_, _, rfl, by simp, fun _ => ⟨b, off + q, rfl, trivial, hcells⟩⟩ (hrb'.kept (fun _ _ => rfl) (fun _ h => h)) (by omega)
        generalize cl.length = la at *
        clear hcells hrb' hql
        go_wp2_with fail
        refine call2.mono ?_
        rintro e w3 ⟨rfl, hww⟩
        have hww := hww.symm
        subst hww
        clear hww
        go_wp2
        go_quiet (first | (go_at_call 36; with_reducible exact Calls.quiet_of (hcall _)) | fail)
        go_wp2
        go_roundw
        case rel => exact ⟨k + 1, n + nq, r, by go_num, by omega, rfl, HR, by rw [← HW.out, World.drewN_drewN]⟩
        case measure => simp [intOf]; omega
    · have hke : k = cs.length := by omega
      have hpe : p = ve := by rw [HPP.out, HE.out, hke, List.take_length]
      subst hpe
      have i1 : ((k : Int) != (cs.length : Int)) = false := by simp; omega
      clear hke HPP HE
      go_wp2
      go_ret2
      exact ⟨rfl, belowDrewN (Below.refl _ _) _⟩
end Go.Proofs.Qxb6604512a
