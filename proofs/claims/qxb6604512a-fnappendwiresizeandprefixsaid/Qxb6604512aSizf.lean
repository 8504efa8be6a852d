import Derived.Test.Qxb6604512aSize
namespace Go.Proofs.Qxb6604512a
open Go.RowKit
set_option linter.unusedVariables false

set_option maxRecDepth 100000 in
set_option maxHeartbeats 4000000 in
theorem wireSize_calls (ok : Nat → Prop) (w : World) (v : Value) (es : List Ent) (h : RE ok w v es) (hsz : Sized es) (hb : (entsB es).length ≤ 1407374880000) : Calls Try.prog 28 #[v] w fun e w' => e = .returned (.int .i64 ((vecB es).length : Int)) ∧ ∃ m, w' = w.drewN m := by
  obtain ⟨a, cap, rfl, hn, hc⟩ := h
  obtain ⟨hlen, hsz⟩ := hsz
  go_enter Try.func28, Try.ntmps28
  go_wp2
  go_loopw [3, 4] (fun t3 t4 wr => ∃ (k n : Nat), k ≤ es.length ∧ t4 = .int .i64 k ∧ t3 = .int .i64 ((entsB (es.take k)).length : Int) ∧ wr = w.drewN n) (fun _ t4 _ => es.length - (intOf t4).toNat)
  case atStart => exact ⟨0, 0, Nat.zero_le _, rfl, rfl, rfl⟩
  case round =>
    obtain ⟨k, n, hk, rfl, rfl, rfl⟩ := hrel
    by_cases hlt : k < es.length
    · obtain ⟨b, off, e, ok1, h5⟩ := hc (ne_nil_of_lt hlt)
      subst e
      obtain ⟨vn, vp, c1, c2, hrc, ⟨ap, cp, rfl, hnp, hcp⟩⟩ := h5 k hlt
      obtain ⟨hz1, hz2, hz3⟩ := hsz _ (List.getElem_mem hlt)
      have hEB := entsB_le es k hlt
      have hEL := entB_le es[k]
      have HES : Hid (entsB (es.take (k + 1)) = entsB (es.take k) ++ entB es[k]) := entsB_succ es k hlt
      obtain ⟨E, hE⟩ : ∃ E, E = es[k] := ⟨_, rfl⟩
      rw [← hE] at c2 hrc hcp hnp hz1 hz2 hz3 hEB hEL HES
      obtain ⟨dn, hdn⟩ : ∃ dn, dn = entsB (es.take k) := ⟨_, rfl⟩
      rw [← hdn] at hEB HES ⊢
      obtain ⟨an, cn, rfl⟩ : ∃ an cn, vn = .slice an E.1.length cn := by
        obtain ⟨av, cv, e, _⟩ := hrc
        exact ⟨av, cv, e⟩
      have c1' : (w.drewN n).cell? ⟨b, off + k * 2, none⟩ = some (.slice an E.1.length cn) := c1
      have c2' : (w.drewN n).cell? ⟨b, off + k * 2 + 1, none⟩ = some (.slice ap E.2.length cp) := c2
      have hrc' : RC ok (w.drewN n) (.slice an E.1.length cn) E.1 := hrc
      clear hE hdn h5
      go_wp2_with fail
      refine (nameWireLen_calls ok (w.drewN n) _ E.1 hrc' hz1 (by omega)).mono ?_
      rintro e w2 ⟨rfl, m2, rfl⟩
      go_wp2_with fail
      go_loopw [5, 7] (fun t5 t7 wr => ∃ (j m : Nat), j ≤ E.2.length ∧ t7 = .int .i64 j ∧ t5 = .int .i64 ((nameB E.1 ++ pairsB (E.2.take j)).length : Int) ∧ wr = w.drewN m) (fun _ t7 _ => E.2.length - (intOf t7).toNat)
      case atStart => exact ⟨0, n + m2, Nat.zero_le _, rfl, by simp [pairsB], by simp⟩
      case round =>
        obtain ⟨j, m, hj, rfl, rfl, rfl⟩ := hrel
        by_cases hjl : j < E.2.length
        · obtain ⟨b', off', e, ok2, h6⟩ := hcp (ne_nil_of_lt hjl)
          subst e
          obtain ⟨p1, p2, d1, d2⟩ := h6 j hjl
          have hPB := pairsB_le E.2 j hjl
          have hPL := pairB_le E.2[j]
          have HPS : Hid (pairsB (E.2.take (j + 1)) = pairsB (E.2.take j) ++ pairB E.2[j]) := pairsB_succ E.2 j hjl
          have hI : (j : Int) < E.2.length := by omega
          obtain ⟨p, hp⟩ : ∃ p, p = E.2[j] := ⟨_, rfl⟩
          rw [← hp] at p1 p2 d1 d2 hPB hPL HPS
          obtain ⟨pn, hpn⟩ : ∃ pn, pn = pairsB (E.2.take j) := ⟨_, rfl⟩
          rw [← hpn] at hPB HPS ⊢
          have d1' : (w.drewN m).cell? ⟨b', off' + j * 2, none⟩ = some (.int .u64 (p.1 : Int)) := d1
          have d2' : (w.drewN m).cell? ⟨b', off' + j * 2 + 1, none⟩ = some (.int .u64 (p.2 : Int)) := d2
          obtain ⟨w0, hw0⟩ : ∃ w0, w0 = w.drewN m := ⟨_, rfl⟩
          have HW0 : Hid (w0 = w.drewN m) := hw0
          rw [← hw0] at d1' d2' ⊢
          have hi1 := intLen_calls p.1
          have hi2 := intLen_calls p.2
          have hl1 := intB_len p.1
          have hl2 := intB_len p.2
          have he1 : ∀ w, Calls Try.prog 41 #[.int .u64 212, .int .i64 ((intB p.1).length : Int)] w fun e w' => e = .returned (.int .i64 ((elem 212 (intB p.1)).length : Int)) ∧ ∃ m, w' = w.drewN m := elemLen_calls 212 (intB p.1) (by omega)
          have he2 : ∀ w, Calls Try.prog 41 #[.int .u64 214, .int .i64 ((intB p.2).length : Int)] w fun e w' => e = .returned (.int .i64 ((elem 214 (intB p.2)).length : Int)) ∧ ∃ m, w' = w.drewN m := elemLen_calls 214 (intB p.2) (by omega)
          have hq1 := (elem_len 212 (intB p.1)).2
          have hq2 := (elem_len 214 (intB p.2)).2
          have hpv : (elem 212 (intB p.1) ++ elem 214 (intB p.2)).length = (elem 212 (intB p.1)).length + (elem 214 (intB p.2)).length := List.length_append
          have HPV : Hid ((elem 212 (intB p.1) ++ elem 214 (intB p.2)).length = (elem 212 (intB p.1)).length + (elem 214 (intB p.2)).length) := hpv
          have HPB : Hid (pairB p = elem 210 (elem 212 (intB p.1) ++ elem 214 (intB p.2))) := rfl
          have hbig : (nameB E.1 ++ pn).length + (pairB p).length ≤ 1407374883000 := by rw [List.length_append]; omega
          clear hpv hp hpn h6 d1 d2 hcp hnp hw0 hc hn
          obtain ⟨L1, hL1⟩ : ∃ L1, L1 = (elem 212 (intB p.1)).length := ⟨_, rfl⟩
          obtain ⟨L2, hL2⟩ : ∃ L2, L2 = (elem 214 (intB p.2)).length := ⟨_, rfl⟩
          rw [← hL1] at he1 hq1 HPV
          rw [← hL2] at he2 hq2 HPV
          clear hL1 hL2
          go_wp2
          go_quiet (first | (go_at_call 42; with_reducible exact Calls.quiet_of (hi1 _)) | (go_at_call 42; with_reducible exact Calls.quiet_of (hi2 _)) | (go_at_call 41; with_reducible exact Calls.quiet_of (he1 _)) | (go_at_call 41; with_reducible exact Calls.quiet_of (he2 _)))
          go_wp2_with fail
          refine (elemLenI 210 (elem 212 (intB p.1) ++ elem 214 (intB p.2)) _ (by rw [HPV.out]; simp) (by rw [HPV.out]; omega) (w0.drewN nq)).mono ?_
          rintro e w3 ⟨rfl, m3, rfl⟩
          rw [← HPB.out]
          go_wp2
          go_roundw
          case rel => exact ⟨j + 1, m + (nq + m3), by omega, by go_num, congrArg (Value.int .i64) (by rw [HPS.out, List.length_append, List.length_append]; simp; omega), by rw [HW0.out]; simp⟩
          case measure => simp [intOf]; omega
        · have hjE : j = E.2.length := by omega
          rw [hjE, List.take_length]
          have HEV : Hid (entB E = elem 202 (nameB E.1 ++ pairsB E.2)) := rfl
          have hev : (nameB E.1 ++ pairsB E.2).length ≤ (entB E).length := (elem_len 202 _).1
          clear hcp hnp hc hn
          go_wp2_with fail
          refine (elemLenI 202 (nameB E.1 ++ pairsB E.2) _ (by simp) (by omega) (w.drewN m)).mono ?_
          rintro e w3 ⟨rfl, m3, rfl⟩
          rw [← HEV.out]
          go_wp2
          go_roundw
          case rel => exact ⟨k + 1, m + m3, by omega, by go_num, by rw [HES.out, List.length_append]; go_num, by simp⟩
          case measure => simp [intOf]; omega
    · have hkl : k = es.length := by omega
      rw [hkl, List.take_length]
      clear hc hn
      go_wp2_with fail
      refine (elemLen_calls 201 (entsB es) (by omega) (w.drewN n)).mono ?_
      rintro e w2 ⟨rfl, m2, rfl⟩
      go_wp2
      go_ret
      exact ⟨rfl, n + m2, by simp⟩
end Go.Proofs.Qxb6604512a
