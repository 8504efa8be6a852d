import Derived.Test.Qxb6604512aBld
namespace Go.Proofs.Qxb6604512a
open Go.RowKit
set_option linter.unusedVariables false

/-- a bool is handed back; if it is true, P holds; the world stands -/
def RetB (P : Prop) (w : World) (e : Ending) (w' : World) : Prop := ∃ r : Bool, e = .returned (.bool r) ∧ (r = true → P) ∧ w' = w
/-- a number is handed back; the world stands -/
def RetI (w : World) (e : Ending) (w' : World) : Prop := (∃ m : Int, e = .returned (.int .i64 m)) ∧ w' = w

def valSum (cs : List (Nat × List UInt8)) : Nat := (cs.map fun c => c.2.length).sum
def entW (e : Ent) : Nat := e.1.length + valSum e.1 + e.2.length
def entSum (es : List Ent) : Nat := (es.map entW).sum

theorem valSum_succ (cs : List (Nat × List UInt8)) (k : Nat) (h : k < cs.length) : valSum (cs.take (k + 1)) = valSum (cs.take k) + cs[k].2.length := by
  unfold valSum
  rw [List.take_succ_eq_append_getElem h, List.map_append, List.sum_append]
  simp
theorem entSum_succ (es : List Ent) (k : Nat) (h : k < es.length) : entSum (es.take (k + 1)) = entSum (es.take k) + entW es[k] := by
  unfold entSum
  rw [List.take_succ_eq_append_getElem h, List.map_append, List.sum_append]
  simp

theorem mem_le_sum {α : Type} (f : α → Nat) : ∀ (l : List α) (x : α), x ∈ l → f x ≤ (l.map f).sum
  | [], x, h => by cases h
  | y :: r, x, h => by
    rw [List.map_cons, List.sum_cons]
    rcases List.mem_cons.1 h with rfl | h
    · omega
    · have := mem_le_sum f r x h
      omega

theorem sized_of {es : List Ent} (h : es.length + entSum es ≤ 1048576) : Sized es := by
  refine ⟨by omega, fun e he => ?_⟩
  have h1 : entW e ≤ entSum es := mem_le_sum entW es e he
  have h2 : entW e = e.1.length + valSum e.1 + e.2.length := rfl
  refine ⟨by omega, by omega, fun c hc => ?_⟩
  have h3 : c.2.length ≤ valSum e.1 := mem_le_sum (fun c : Nat × List UInt8 => c.2.length) e.1 c hc
  omega

theorem compsB_bound : ∀ cs : List (Nat × List UInt8), (compsB cs).length ≤ 18 * cs.length + valSum cs
  | [] => by simp [compsB]
  | c :: r => by
    have ih := compsB_bound r
    have e : compsB (c :: r) = elem c.1 c.2 ++ compsB r := by simp [compsB]
    have e2 : valSum (c :: r) = c.2.length + valSum r := by simp [valSum]
    have h := (elem_len c.1 c.2).2
    rw [e, List.length_append, e2, List.length_cons]
    omega

theorem pairB_bound (p : Nat × Nat) : (pairB p).length ≤ 70 := by
  have h1 := (elem_len 210 (elem 212 (intB p.1) ++ elem 214 (intB p.2))).2
  have h2 := (elem_len 212 (intB p.1)).2
  have h3 := (elem_len 214 (intB p.2)).2
  have h4 := intB_len p.1
  have h5 := intB_len p.2
  have e : (pairB p).length = (elem 210 (elem 212 (intB p.1) ++ elem 214 (intB p.2))).length := rfl
  rw [List.length_append] at h1
  omega

theorem pairsB_bound : ∀ ps : List (Nat × Nat), (pairsB ps).length ≤ 70 * ps.length
  | [] => by simp [pairsB]
  | p :: r => by
    have ih := pairsB_bound r
    have e : pairsB (p :: r) = pairB p ++ pairsB r := by simp [pairsB]
    have h := pairB_bound p
    rw [e, List.length_append, List.length_cons]
    omega

theorem entB_bound (e : Ent) : (entB e).length ≤ 36 + 70 * entW e := by
  have h1 := (elem_len 202 (nameB e.1 ++ pairsB e.2)).2
  have h2 := (elem_len 7 (compsB e.1)).2
  have h3 := compsB_bound e.1
  have h4 := pairsB_bound e.2
  have e1 : (entB e).length = (elem 202 (nameB e.1 ++ pairsB e.2)).length := rfl
  have e2 : (nameB e.1).length = (elem 7 (compsB e.1)).length := rfl
  have e3 : entW e = e.1.length + valSum e.1 + e.2.length := rfl
  rw [List.length_append] at h1
  omega

theorem entsB_bound : ∀ es : List Ent, (entsB es).length ≤ 36 * es.length + 70 * entSum es
  | [] => by simp [entsB]
  | x :: r => by
    have ih := entsB_bound r
    have e : entsB (x :: r) = entB x ++ entsB r := by simp [entsB]
    have e2 : entSum (x :: r) = entW x + entSum r := by simp [entSum]
    have h := entB_bound x
    rw [e, List.length_append, List.length_cons, e2]
    omega

set_option maxRecDepth 100000 in
set_option maxHeartbeats 4000000 in
theorem zzBytes27_calls (ok : Nat → Prop) (w : World) (v : Value) (es : List Ent) (h : RE ok w v es) (hlen : es.length ≤ maxLen) (ab : Option Addr) (cb : Nat) (l : List UInt8) (hl : l.length ≤ maxLen) :
    Calls Try.prog 27 #[v, .slice ab l.length cb] w (RetB (es.length + entSum es + l.length ≤ 1048576) w) := by
  obtain ⟨a, cap, rfl, hn, hc⟩ := h
  unfold maxLen at *
  by_cases c1 : (1048576 : Int) < es.length
  · go_enter Try.func27, Try.ntmps27
    go_wp2
    go_ret
    exact ⟨false, rfl, by simp, rfl⟩
  go_enter Try.func27, Try.ntmps27
  go_wp2
  go_loopw [5, 6] (fun t5 t6 wr => ∃ (k m : Nat), k ≤ es.length ∧ t6 = .int .i64 k ∧ t5 = .int .i64 m ∧ m = es.length + entSum (es.take k) ∧ m ≤ 1048576 ∧ wr = w) (fun _ t6 _ => es.length - (intOf t6).toNat)
  case atStart => exact ⟨0, es.length, Nat.zero_le _, rfl, by go_num, by simp [entSum], by omega, rfl⟩
  case round =>
    obtain ⟨k, m, hk, rfl, rfl, hm, hm2, hwr⟩ := hrel
    have hwr := hwr.symm
    subst hwr
    have HM : Hid (m = es.length + entSum (es.take k)) := hm
    clear hm
    by_cases hlt : k < es.length
    · obtain ⟨b, off, e, ok1, h5⟩ := hc (ne_nil_of_lt hlt)
      subst e
      obtain ⟨vn, vp, h7, h8, ⟨an, cn, rfl, hnn, hcn⟩, ⟨ap, cp, rfl, hnp, hcp⟩⟩ := h5 k hlt
      have HS : Hid (entSum (es.take (k + 1)) = entSum (es.take k) + entW es[k]) := entSum_succ es k hlt
      obtain ⟨E, hE⟩ : ∃ E, E = es[k] := ⟨_, rfl⟩
      rw [← hE] at h7 h8 hcn hcp hnn hnp HS
      clear hE h5
      by_cases d1 : (1048576 : Int) < E.1.length
      · go_wp2
        go_ret
        exact ⟨false, rfl, by simp, rfl⟩
      by_cases d2 : (1048576 : Int) < (m : Int) + E.1.length
      · go_wp2
        go_ret
        exact ⟨false, rfl, by simp, rfl⟩
      go_wp2
      go_loopw [5, 7] (fun t5 t7 wr => ∃ (j m' : Nat), j ≤ E.1.length ∧ t7 = .int .i64 j ∧ t5 = .int .i64 m' ∧ m' = m + E.1.length + valSum (E.1.take j) ∧ m' ≤ 1048576 ∧ wr = w) (fun _ t7 _ => E.1.length - (intOf t7).toNat)
      case atStart => exact ⟨0, m + E.1.length, Nat.zero_le _, rfl, by go_num, by simp [valSum], by omega, rfl⟩
      case round =>
        obtain ⟨j, m', hj, rfl, rfl, hm', hm2', hwr⟩ := hrel
        have hwr := hwr.symm
        subst hwr
        have HM' : Hid (m' = m + E.1.length + valSum (E.1.take j)) := hm'
        clear hm'
        by_cases hjl : j < E.1.length
        · obtain ⟨b2, off2, e, ok2, h6⟩ := hcn (ne_nil_of_lt hjl)
          subst e
          obtain ⟨q1, q2, vv, q3, ⟨av, cv, rfl, hnv, hcv⟩⟩ := h6 j hjl
          have HV : Hid (valSum (E.1.take (j + 1)) = valSum (E.1.take j) + E.1[j].2.length) := valSum_succ E.1 j hjl
          obtain ⟨X, hX⟩ : ∃ X, X = E.1[j] := ⟨_, rfl⟩
          rw [← hX] at q1 q2 q3 HV
          clear hX h6 hcv hnv q2 hcn hcp hnn hnp hc hwr
          go_wp2
          · go_ret
            exact ⟨false, rfl, by simp, rfl⟩
          · go_ret
            exact ⟨false, rfl, by simp, rfl⟩
          · go_roundw
            case rel => exact ⟨j + 1, m' + X.2.length, by omega, by go_num, by go_num, by rw [HM'.out, HV.out]; omega, by omega, trivial⟩
            case measure => simp [intOf]; omega
        · have HA2 : Hid (valSum (E.1.take j) = valSum E.1) := by rw [Hid, List.take_of_length_le (by omega)]
          clear hcn hcp hnn hnp hwr hc
          go_wp2
          · go_ret
            exact ⟨false, rfl, by simp, rfl⟩
          · go_ret
            exact ⟨false, rfl, by simp, rfl⟩
          · go_roundw
            case rel => exact ⟨k + 1, m' + E.2.length, by omega, by go_num, by go_num, by rw [HM'.out, HA2.out, HM.out, HS.out, entW]; omega, by omega, trivial⟩
            case measure => simp [intOf]; omega
    · have HA : Hid (m = es.length + entSum es) := by rw [Hid, HM.out, List.take_of_length_le (by omega)]
      by_cases cl : (1048576 : Int) < l.length
      · go_wp2
        go_ret
        exact ⟨false, rfl, by simp, rfl⟩
      by_cases cl2 : (1048576 : Int) < (m : Int) + l.length
      · go_wp2
        go_ret
        exact ⟨false, rfl, by simp, rfl⟩
      have HT : Hid (es.length + entSum es + l.length ≤ 1048576) := by rw [Hid, ← HA.out]; omega
      go_wp2
      go_ret
      exact ⟨true, rfl, fun _ => HT.out, rfl⟩

set_option maxRecDepth 100000 in
set_option maxHeartbeats 4000000 in
theorem zzBytes23_calls (ok : Nat → Prop) (w : World) (v : Value) (es : List Ent) (h : RE ok w v es) (hlen : es.length ≤ maxLen) (ab : Option Addr) (cb : Nat) (l : List UInt8) (hl : l.length ≤ maxLen) :
    Calls Try.prog 23 #[v, .slice ab l.length cb] w (RetB (es.length + entSum es + l.length ≤ 1048576) w) := by
  obtain ⟨a, cap, rfl, hn, hc⟩ := h
  unfold maxLen at *
  by_cases c1 : (1048576 : Int) < es.length
  · go_enter Try.func23, Try.ntmps23
    go_wp2
    go_ret
    exact ⟨false, rfl, by simp, rfl⟩
  go_enter Try.func23, Try.ntmps23
  go_wp2
  go_loopw [5, 6] (fun t5 t6 wr => ∃ (k m : Nat), k ≤ es.length ∧ t6 = .int .i64 k ∧ t5 = .int .i64 m ∧ m = es.length + entSum (es.take k) ∧ m ≤ 1048576 ∧ wr = w) (fun _ t6 _ => es.length - (intOf t6).toNat)
  case atStart => exact ⟨0, es.length, Nat.zero_le _, rfl, by go_num, by simp [entSum], by omega, rfl⟩
  case round =>
    obtain ⟨k, m, hk, rfl, rfl, hm, hm2, hwr⟩ := hrel
    have hwr := hwr.symm
    subst hwr
    have HM : Hid (m = es.length + entSum (es.take k)) := hm
    clear hm
    by_cases hlt : k < es.length
    · obtain ⟨b, off, e, ok1, h5⟩ := hc (ne_nil_of_lt hlt)
      subst e
      obtain ⟨vn, vp, h7, h8, ⟨an, cn, rfl, hnn, hcn⟩, ⟨ap, cp, rfl, hnp, hcp⟩⟩ := h5 k hlt
      have HS : Hid (entSum (es.take (k + 1)) = entSum (es.take k) + entW es[k]) := entSum_succ es k hlt
      obtain ⟨E, hE⟩ : ∃ E, E = es[k] := ⟨_, rfl⟩
      rw [← hE] at h7 h8 hcn hcp hnn hnp HS
      clear hE h5
      by_cases d1 : (1048576 : Int) < E.1.length
      · go_wp2
        go_ret
        exact ⟨false, rfl, by simp, rfl⟩
      by_cases d2 : (1048576 : Int) < (m : Int) + E.1.length
      · go_wp2
        go_ret
        exact ⟨false, rfl, by simp, rfl⟩
      go_wp2
      go_loopw [5, 7] (fun t5 t7 wr => ∃ (j m' : Nat), j ≤ E.1.length ∧ t7 = .int .i64 j ∧ t5 = .int .i64 m' ∧ m' = m + E.1.length + valSum (E.1.take j) ∧ m' ≤ 1048576 ∧ wr = w) (fun _ t7 _ => E.1.length - (intOf t7).toNat)
      case atStart => exact ⟨0, m + E.1.length, Nat.zero_le _, rfl, by go_num, by simp [valSum], by omega, rfl⟩
      case round =>
        obtain ⟨j, m', hj, rfl, rfl, hm', hm2', hwr⟩ := hrel
        have hwr := hwr.symm
        subst hwr
        have HM' : Hid (m' = m + E.1.length + valSum (E.1.take j)) := hm'
        clear hm'
        by_cases hjl : j < E.1.length
        · obtain ⟨b2, off2, e, ok2, h6⟩ := hcn (ne_nil_of_lt hjl)
          subst e
          obtain ⟨q1, q2, vv, q3, ⟨av, cv, rfl, hnv, hcv⟩⟩ := h6 j hjl
          have HV : Hid (valSum (E.1.take (j + 1)) = valSum (E.1.take j) + E.1[j].2.length) := valSum_succ E.1 j hjl
          obtain ⟨X, hX⟩ : ∃ X, X = E.1[j] := ⟨_, rfl⟩
          rw [← hX] at q1 q2 q3 HV
          clear hX h6 hcv hnv q2 hcn hcp hnn hnp hc hwr
          go_wp2
          · go_ret
            exact ⟨false, rfl, by simp, rfl⟩
          · go_ret
            exact ⟨false, rfl, by simp, rfl⟩
          · go_roundw
            case rel => exact ⟨j + 1, m' + X.2.length, by omega, by go_num, by go_num, by rw [HM'.out, HV.out]; omega, by omega, trivial⟩
            case measure => simp [intOf]; omega
        · have HA2 : Hid (valSum (E.1.take j) = valSum E.1) := by rw [Hid, List.take_of_length_le (by omega)]
          clear hcn hcp hnn hnp hwr hc
          go_wp2
          · go_ret
            exact ⟨false, rfl, by simp, rfl⟩
          · go_ret
            exact ⟨false, rfl, by simp, rfl⟩
          · go_roundw
            case rel => exact ⟨k + 1, m' + E.2.length, by omega, by go_num, by go_num, by rw [HM'.out, HA2.out, HM.out, HS.out, entW]; omega, by omega, trivial⟩
            case measure => simp [intOf]; omega
    · have HA : Hid (m = es.length + entSum es) := by rw [Hid, HM.out, List.take_of_length_le (by omega)]
      by_cases cl : (1048576 : Int) < l.length
      · go_wp2
        go_ret
        exact ⟨false, rfl, by simp, rfl⟩
      by_cases cl2 : (1048576 : Int) < (m : Int) + l.length
      · go_wp2
        go_ret
        exact ⟨false, rfl, by simp, rfl⟩
      have HT : Hid (es.length + entSum es + l.length ≤ 1048576) := by rw [Hid, ← HA.out]; omega
      go_wp2
      go_ret
      exact ⟨true, rfl, fun _ => HT.out, rfl⟩

set_option maxRecDepth 100000 in
set_option maxHeartbeats 4000000 in
theorem zzBytes17_calls (ok : Nat → Prop) (w : World) (v : Value) (es : List Ent) (h : RE ok w v es) (hlen : es.length ≤ maxLen) :
    Calls Try.prog 17 #[v] w (RetB (es.length + entSum es ≤ 1048576) w) := by
  obtain ⟨a, cap, rfl, hn, hc⟩ := h
  unfold maxLen at *
  by_cases c1 : (1048576 : Int) < es.length
  · go_enter Try.func17, Try.ntmps17
    go_wp2
    go_ret
    exact ⟨false, rfl, by simp, rfl⟩
  go_enter Try.func17, Try.ntmps17
  go_wp2
  go_loopw [3, 4] (fun t5 t6 wr => ∃ (k m : Nat), k ≤ es.length ∧ t6 = .int .i64 k ∧ t5 = .int .i64 m ∧ m = es.length + entSum (es.take k) ∧ m ≤ 1048576 ∧ wr = w) (fun _ t6 _ => es.length - (intOf t6).toNat)
  case atStart => exact ⟨0, es.length, Nat.zero_le _, rfl, by go_num, by simp [entSum], by omega, rfl⟩
  case round =>
    obtain ⟨k, m, hk, rfl, rfl, hm, hm2, hwr⟩ := hrel
    have hwr := hwr.symm
    subst hwr
    have HM : Hid (m = es.length + entSum (es.take k)) := hm
    clear hm
    by_cases hlt : k < es.length
    · obtain ⟨b, off, e, ok1, h5⟩ := hc (ne_nil_of_lt hlt)
      subst e
      obtain ⟨vn, vp, h7, h8, ⟨an, cn, rfl, hnn, hcn⟩, ⟨ap, cp, rfl, hnp, hcp⟩⟩ := h5 k hlt
      have HS : Hid (entSum (es.take (k + 1)) = entSum (es.take k) + entW es[k]) := entSum_succ es k hlt
      obtain ⟨E, hE⟩ : ∃ E, E = es[k] := ⟨_, rfl⟩
      rw [← hE] at h7 h8 hcn hcp hnn hnp HS
      clear hE h5
      by_cases d1 : (1048576 : Int) < E.1.length
      · go_wp2
        go_ret
        exact ⟨false, rfl, by simp, rfl⟩
      by_cases d2 : (1048576 : Int) < (m : Int) + E.1.length
      · go_wp2
        go_ret
        exact ⟨false, rfl, by simp, rfl⟩
      go_wp2
      go_loopw [3, 5] (fun t5 t7 wr => ∃ (j m' : Nat), j ≤ E.1.length ∧ t7 = .int .i64 j ∧ t5 = .int .i64 m' ∧ m' = m + E.1.length + valSum (E.1.take j) ∧ m' ≤ 1048576 ∧ wr = w) (fun _ t7 _ => E.1.length - (intOf t7).toNat)
      case atStart => exact ⟨0, m + E.1.length, Nat.zero_le _, rfl, by go_num, by simp [valSum], by omega, rfl⟩
      case round =>
        obtain ⟨j, m', hj, rfl, rfl, hm', hm2', hwr⟩ := hrel
        have hwr := hwr.symm
        subst hwr
        have HM' : Hid (m' = m + E.1.length + valSum (E.1.take j)) := hm'
        clear hm'
        by_cases hjl : j < E.1.length
        · obtain ⟨b2, off2, e, ok2, h6⟩ := hcn (ne_nil_of_lt hjl)
          subst e
          obtain ⟨q1, q2, vv, q3, ⟨av, cv, rfl, hnv, hcv⟩⟩ := h6 j hjl
          have HV : Hid (valSum (E.1.take (j + 1)) = valSum (E.1.take j) + E.1[j].2.length) := valSum_succ E.1 j hjl
          obtain ⟨X, hX⟩ : ∃ X, X = E.1[j] := ⟨_, rfl⟩
          rw [← hX] at q1 q2 q3 HV
          clear hX h6 hcv hnv q2 hcn hcp hnn hnp hc hwr
          go_wp2
          · go_ret
            exact ⟨false, rfl, by simp, rfl⟩
          · go_ret
            exact ⟨false, rfl, by simp, rfl⟩
          · go_roundw
            case rel => exact ⟨j + 1, m' + X.2.length, by omega, by go_num, by go_num, by rw [HM'.out, HV.out]; omega, by omega, trivial⟩
            case measure => simp [intOf]; omega
        · have HA2 : Hid (valSum (E.1.take j) = valSum E.1) := by rw [Hid, List.take_of_length_le (by omega)]
          clear hcn hcp hnn hnp hwr hc
          go_wp2
          · go_ret
            exact ⟨false, rfl, by simp, rfl⟩
          · go_ret
            exact ⟨false, rfl, by simp, rfl⟩
          · go_roundw
            case rel => exact ⟨k + 1, m' + E.2.length, by omega, by go_num, by go_num, by rw [HM'.out, HA2.out, HM.out, HS.out, entW]; omega, by omega, trivial⟩
            case measure => simp [intOf]; omega
    · have HA : Hid (m = es.length + entSum es) := by rw [Hid, HM.out, List.take_of_length_le (by omega)]
      have HT : Hid (es.length + entSum es ≤ 1048576) := by rw [Hid, ← HA.out]; omega
      go_wp2
      go_ret
      exact ⟨true, rfl, fun _ => HT.out, rfl⟩

end Go.Proofs.Qxb6604512a
