import Derived.Test.Qxb6604512aWf
namespace Go.Proofs.Qxb6604512a
open Go.RowKit
set_option linter.unusedVariables false

set_option maxRecDepth 100000 in
theorem varLen_calls (n : Nat) (w : World) : Calls Try.prog 51 #[.int .u64 (n : Int)] w fun e w' => e = .returned (.int .i64 ((varNum n).length : Int)) ∧ ∃ m, w' = w.drewN m := by
  by_cases h1 : n < 253
  · have e : (varNum n).length = 1 := by rw [varNum, if_pos h1, Lib.beBytes_length]
    rw [e]
    clear e
    go_enter Try.func51, Try.ntmps51
    go_wp2
    go_ret
    exact ⟨rfl, 0, rfl⟩
  by_cases h2 : n ≤ 65535
  · have e : (varNum n).length = 3 := by rw [varNum, if_neg h1, if_pos h2, List.length_cons, Lib.beBytes_length]
    rw [e]
    clear e
    go_enter Try.func51, Try.ntmps51
    go_wp2
    go_ret
    exact ⟨rfl, 0, rfl⟩
  by_cases h3 : n ≤ 4294967295
  · have e : (varNum n).length = 5 := by rw [varNum, if_neg h1, if_neg h2, if_pos h3, List.length_cons, Lib.beBytes_length]
    rw [e]
    clear e
    go_enter Try.func51, Try.ntmps51
    go_wp2
    go_ret
    exact ⟨rfl, 0, rfl⟩
  · have e : (varNum n).length = 9 := by rw [varNum, if_neg h1, if_neg h2, if_neg h3, List.length_cons, Lib.beBytes_length]
    rw [e]
    clear e
    go_enter Try.func51, Try.ntmps51
    go_wp2
    go_ret
    exact ⟨rfl, 0, rfl⟩

set_option maxRecDepth 100000 in
theorem intLen_calls (n : Nat) (w : World) : Calls Try.prog 42 #[.int .u64 (n : Int)] w fun e w' => e = .returned (.int .i64 ((intB n).length : Int)) ∧ ∃ m, w' = w.drewN m := by
  by_cases h1 : n ≤ 255
  · have e : (intB n).length = 1 := by rw [intB, if_pos h1, Lib.beBytes_length]
    rw [e]
    clear e
    go_enter Try.func42, Try.ntmps42
    go_wp2
    go_ret
    exact ⟨rfl, 0, rfl⟩
  by_cases h2 : n ≤ 65535
  · have e : (intB n).length = 2 := by rw [intB, if_neg h1, if_pos h2, Lib.beBytes_length]
    rw [e]
    clear e
    go_enter Try.func42, Try.ntmps42
    go_wp2
    go_ret
    exact ⟨rfl, 0, rfl⟩
  by_cases h3 : n ≤ 4294967295
  · have e : (intB n).length = 4 := by rw [intB, if_neg h1, if_neg h2, if_pos h3, Lib.beBytes_length]
    rw [e]
    clear e
    go_enter Try.func42, Try.ntmps42
    go_wp2
    go_ret
    exact ⟨rfl, 0, rfl⟩
  · have e : (intB n).length = 8 := by rw [intB, if_neg h1, if_neg h2, if_neg h3, Lib.beBytes_length]
    rw [e]
    clear e
    go_enter Try.func42, Try.ntmps42
    go_wp2
    go_ret
    exact ⟨rfl, 0, rfl⟩

theorem len_app (a b : List UInt8) : (a ++ b).length = a.length + b.length := List.length_append

theorem elem_len_eq (t : Nat) (l : List UInt8) : (elem t l).length = (varNum t).length + (varNum l.length).length + l.length := by
  simp [elem]; omega

set_option maxHeartbeats 1000000 in
theorem elemLen_calls (t : Nat) (l : List UInt8) (hl : l.length ≤ 1407374883553) (w : World) : Calls Try.prog 41 #[.int .u64 (t : Int), .int .i64 (l.length : Int)] w fun e w' => e = .returned (.int .i64 ((elem t l).length : Int)) ∧ ∃ m, w' = w.drewN m := by
  have h1 := varNum_len t
  have h2 := varNum_len l.length
  go_enter Try.func41, Try.ntmps41
  go_wp2_with fail
  refine (varLen_calls t w).mono ?_
  rintro e w1 ⟨rfl, m1, rfl⟩
  go_wp2_with fail
  refine (varLen_calls l.length (w.drewN m1)).mono ?_
  rintro e w2 ⟨rfl, m2, rfl⟩
  go_wp2
  go_ret
  refine ⟨?_, m1 + m2, by simp⟩
  rw [elem_len_eq]
  simp

/-- the number as the walk has reckoned it -/
theorem elemLenI (t : Nat) (l : List UInt8) (p : Int) (hp : p = (l.length : Int)) (hl : l.length ≤ 1407374883553) (w : World) : Calls Try.prog 41 #[.int .u64 (t : Int), .int .i64 p] w fun e w' => e = .returned (.int .i64 ((elem t l).length : Int)) ∧ ∃ m, w' = w.drewN m := by
  subst hp
  exact elemLen_calls t l hl w

set_option maxRecDepth 100000 in
set_option maxHeartbeats 2000000 in
theorem nameWireLen_calls (ok : Nat → Prop) (w : World) (v : Value) (cs : List (Nat × List UInt8)) (h : RC ok w v cs) (hlen : cs.length ≤ 1048576) (hb : (compsB cs).length ≤ 1407374883000) : Calls Try.prog 40 #[v] w fun e w' => e = .returned (.int .i64 ((nameB cs).length : Int)) ∧ ∃ m, w' = w.drewN m := by
  obtain ⟨a, cap, rfl, hn, hc⟩ := h
  go_enter Try.func40, Try.ntmps40
  go_wp2
  go_loopw [3, 4] (fun t3 t4 wr => ∃ (k n : Nat), k ≤ cs.length ∧ t4 = .int .i64 k ∧ t3 = .int .i64 ((compsB (cs.take k)).length : Int) ∧ wr = w.drewN n) (fun _ t4 _ => cs.length - (intOf t4).toNat)
  case atStart => exact ⟨0, 0, Nat.zero_le _, rfl, rfl, rfl⟩
  case round =>
    obtain ⟨k, n, hk, rfl, rfl, rfl⟩ := hrel
    by_cases hlt : k < cs.length
    · obtain ⟨b, off, e, ok1, h5⟩ := hc (ne_nil_of_lt hlt)
      subst e
      obtain ⟨q1, q2, vv, q3, ⟨av, cv, rfl, hnv, hcv⟩⟩ := h5 k hlt
      have hI : (k : Int) < cs.length := by omega
      have e1 : (compsB (cs.take (k + 1))).length ≤ (compsB cs).length := flat_take (fun c : Nat × List UInt8 => elem c.1 c.2) cs (k + 1)
      have HS : Hid (compsB (cs.take (k + 1)) = compsB (cs.take k) ++ elem cs[k].1 cs[k].2) := compsB_succ cs k hlt
      rw [HS.out, List.length_append] at e1
      have e2 := (elem_len cs[k].1 cs[k].2).1
      obtain ⟨X, hX⟩ : ∃ X, X = cs[k] := ⟨_, rfl⟩
      rw [← hX] at q1 q2 q3 HS e1 e2
      obtain ⟨dn, hdn⟩ : ∃ dn, dn = compsB (cs.take k) := ⟨_, rfl⟩
      rw [← hdn] at HS e1 ⊢
      have hcall := elemLen_calls X.1 X.2 (by omega)
      have q2' : (w.drewN n).cell? ⟨b, off + k * 2, none⟩ = some (.int .u64 (X.1 : Int)) := q2
      have q3' : (w.drewN n).cell? ⟨b, off + k * 2 + 1, none⟩ = some (.slice av X.2.length cv) := q3
      obtain ⟨w0, hw0⟩ : ∃ w0, w0 = w.drewN n := ⟨_, rfl⟩
      have HW0 : Hid (w0 = w.drewN n) := hw0
      rw [← hw0] at q2' q3' ⊢
      clear hX h5 hcv hnv hc hn hdn q2 q3 hw0
      go_wp2
      go_quiet ((go_at_call 41; exact Calls.quiet_of (hcall _)))
      go_wp2
      go_roundw
      case rel => exact ⟨k + 1, n + nq, by omega, by go_num, by rw [HS.out, List.length_append]; go_num, by rw [HW0.out]; simp⟩
      case measure => simp [intOf]; omega
    · have hkl : k = cs.length := by omega
      rw [hkl, List.take_length]
      clear hc hn
      go_wp2_with fail
      refine (elemLen_calls 7 (compsB cs) (by omega) (w.drewN n)).mono ?_
      rintro e w2 ⟨rfl, m2, rfl⟩
      go_wp2
      go_ret
      exact ⟨rfl, n + m2, by simp⟩
end Go.Proofs.Qxb6604512a
