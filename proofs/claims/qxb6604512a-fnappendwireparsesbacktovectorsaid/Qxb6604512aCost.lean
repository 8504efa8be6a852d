import Derived.Test.Qxb6604512aChk
namespace Go.Proofs.Qxb6604512a
open Go.RowKit
set_option linter.unusedVariables false

set_option maxRecDepth 100000 in
set_option maxHeartbeats 2000000 in
theorem nameCost_calls (ok : Nat → Prop) (w : World) (v : Value) (cs : List (Nat × List UInt8)) (h : RC ok w v cs) (hlen : cs.length ≤ 1048576) (hval : ∀ c ∈ cs, c.2.length ≤ 1048576) : Calls Try.prog 11 #[v] w (RetI w) := by
  obtain ⟨a, cap, rfl, hn, hc⟩ := h
  go_enter Try.func11, Try.ntmps11
  go_wp2
  go_loopw [3, 4] (fun t3 t4 wr => ∃ (k : Nat) (m : Int), k ≤ cs.length ∧ t4 = .int .i64 k ∧ t3 = .int .i64 m ∧ wr = w) (fun _ t4 _ => cs.length - (intOf t4).toNat)
  case atStart => exact ⟨0, _, Nat.zero_le _, rfl, rfl, rfl⟩
  case round =>
    obtain ⟨k, m, hk, rfl, rfl, hwr⟩ := hrel
    have hwr := hwr.symm
    subst hwr
    clear hwr
    by_cases hlt : k < cs.length
    · obtain ⟨b, off, e, ok1, h5⟩ := hc (ne_nil_of_lt hlt)
      subst e
      obtain ⟨q1, q2, vv, q3, ⟨av, cv, rfl, hnv, hcv⟩⟩ := h5 k hlt
      have hv := hval _ (List.getElem_mem hlt)
      obtain ⟨X, hX⟩ : ∃ X, X = cs[k] := ⟨_, rfl⟩
      rw [← hX] at q1 q2 q3 hv
      clear hX h5 hcv hnv q2 hc hn
      by_cases d1 : 1048576 < m
      · go_wp2
        go_ret
        exact ⟨⟨_, rfl⟩, rfl⟩
      · have hvI : ¬ (1048576 : Int) < X.2.length := by omega
        go_wp2
        go_roundw
        case rel => exact ⟨k + 1, _, by omega, by go_num, rfl, trivial⟩
        case measure => simp [intOf]; omega
    · go_wp2
      · go_ret
        exact ⟨⟨_, rfl⟩, rfl⟩
      · go_ret
        exact ⟨⟨_, rfl⟩, rfl⟩

set_option maxRecDepth 100000 in
set_option maxHeartbeats 2000000 in
theorem entriesCost_calls (ok : Nat → Prop) (w : World) (v : Value) (es : List Ent) (h : RE ok w v es) (hsz : Sized es) : Calls Try.prog 10 #[v] w (RetI w) := by
  obtain ⟨a, cap, rfl, hn, hc⟩ := h
  obtain ⟨hlen, hsz⟩ := hsz
  go_enter Try.func10, Try.ntmps10
  go_wp2
  go_loopw [3, 4] (fun t3 t4 wr => ∃ (k : Nat) (m : Int), k ≤ es.length ∧ t4 = .int .i64 k ∧ t3 = .int .i64 m ∧ wr = w) (fun _ t4 _ => es.length - (intOf t4).toNat)
  case atStart => exact ⟨0, _, Nat.zero_le _, rfl, rfl, rfl⟩
  case round =>
    obtain ⟨k, m, hk, rfl, rfl, hwr⟩ := hrel
    have hwr := hwr.symm
    subst hwr
    clear hwr
    by_cases hlt : k < es.length
    · obtain ⟨b, off, e, ok1, h5⟩ := hc (ne_nil_of_lt hlt)
      subst e
      obtain ⟨vn, vp, h7, h8, hrc, ⟨ap, cp, rfl, hnp, hcp⟩⟩ := h5 k hlt
      obtain ⟨hz1, hz2, hz3⟩ := hsz _ (List.getElem_mem hlt)
      obtain ⟨X, hX⟩ : ∃ X, X = es[k] := ⟨_, rfl⟩
      rw [← hX] at h8 hrc hz1 hz2 hz3
      clear hX h5 hcp hnp hc hn
      obtain ⟨an, cn, rfl⟩ : ∃ an cn, vn = .slice an X.1.length cn := by
        obtain ⟨av, cv, e, _⟩ := hrc
        exact ⟨av, cv, e⟩
      by_cases d1 : 1048576 < m
      · go_wp2
        go_ret
        exact ⟨⟨_, rfl⟩, rfl⟩
      · have hvI : ¬ (1048576 : Int) < X.2.length := by omega
        go_wp2_with fail
        refine (nameCost_calls ok w _ X.1 hrc hz1 hz3).mono ?_
        rintro e w' ⟨⟨m1, rfl⟩, hww⟩
        have hww := hww.symm
        subst hww
        clear hww
        go_wp2
        · go_ret
          exact ⟨⟨_, rfl⟩, rfl⟩
        · go_roundw
          case rel => exact ⟨k + 1, _, by omega, by go_num, rfl, trivial⟩
          case measure => simp [intOf]; omega
    · go_wp2
      · go_ret
        exact ⟨⟨_, rfl⟩, rfl⟩
      · go_ret
        exact ⟨⟨_, rfl⟩, rfl⟩
end Go.Proofs.Qxb6604512a
