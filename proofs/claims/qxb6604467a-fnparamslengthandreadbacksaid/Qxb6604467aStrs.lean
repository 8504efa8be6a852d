import Derived.Test.Qxb6604467aHas
import Derived.Test.Qxb6604467aOps
namespace Go.Proofs.Qxb6604467a
open Go.RowKit
set_option linter.unusedVariables false

/-- a slice of strings that is read -/
def IsStrs (w : World) (a : Option Addr) (b off : Nat) (ss : List ByteArray) : Prop :=
  (ss ≠ [] → a = some ⟨b, off, none⟩) ∧ ∀ i (h : i < ss.length), w.cell? ⟨b, off + i, none⟩ = some (.string ss[i])

theorem IsStrs.below {w w' : World} {a : Option Addr} {b off : Nat} {ss : List ByteArray} (h : IsStrs w a b off ss) (hb : ss ≠ [] → b < w.heap.size) (hbel : Below w.heap.size w w') : IsStrs w' a b off ss :=
  ⟨h.1, fun i hi => (hbel.cell (p := ⟨b, off + i, none⟩) (hb (ne_nil_of_lt hi))).trans (h.2 i hi)⟩

def strSum (ss : List ByteArray) : Nat := (ss.map ByteArray.size).sum

theorem strSum_take_succ (ss : List ByteArray) (k : Nat) (h : k < ss.length) : strSum (ss.take (k + 1)) = strSum (ss.take k) + ss[k].size := by
  unfold strSum
  rw [List.take_succ_eq_append_getElem h, List.map_append, List.sum_append]
  simp

theorem strSum_take_all (ss : List ByteArray) (k : Nat) (h : ¬ k < ss.length) : strSum (ss.take k) = strSum ss := by
  rw [List.take_of_length_le (by omega)]

theorem le_strSum : ∀ (ss : List ByteArray) (x : ByteArray), x ∈ ss → x.size ≤ strSum ss
  | [], x, h => by cases h
  | y :: ys, x, h => by
    have e : strSum (y :: ys) = y.size + strSum ys := rfl
    rcases List.mem_cons.1 h with rfl | h
    · omega
    · have := le_strSum ys x h
      omega

/-- a number is handed back; the world stands -/
def RetI (w : World) (e : Ending) (w' : World) : Prop := (∃ m : Int, e = .returned (.int .i64 m)) ∧ w' = w

set_option maxHeartbeats 1000000 in
theorem zzBytes13_calls (nm : ByteArray) (a : Option Addr) (b off cap : Nat) (ss : List ByteArray) (w : World) (h : IsStrs w a b off ss) (hn : nm.size ≤ maxLen) (hlen : ss.length ≤ maxLen) :
    Calls Try.prog 13 #[.string nm, .slice a ss.length cap] w (RetB (nm.size + ss.length + strSum ss ≤ 1048576) w) := by
  unfold maxLen at hlen hn
  obtain ⟨ha, hc⟩ := h
  by_cases c0 : (1048576 : Int) < nm.size
  · go_enter Try.func13, Try.ntmps13
    go_wp2
    go_ret
    exact ⟨false, rfl, by simp, rfl⟩
  by_cases c1 : (1048576 : Int) < ss.length
  · go_enter Try.func13, Try.ntmps13
    go_wp2
    go_ret
    exact ⟨false, rfl, by simp, rfl⟩
  by_cases c2 : (1048576 : Int) < nm.size + ss.length
  · go_enter Try.func13, Try.ntmps13
    go_wp2
    go_ret
    exact ⟨false, rfl, by simp, rfl⟩
  go_enter Try.func13, Try.ntmps13
  go_wp2
  go_loop [5, 6] (fun n i => ∃ (k m : Nat), k ≤ ss.length ∧ i = .int .i64 k ∧ n = .int .i64 m ∧ m = nm.size + ss.length + strSum (ss.take k) ∧ m ≤ 1048576) (fun _ i => ss.length - (intOf i).toNat)
  case atStart => exact ⟨0, nm.size + ss.length, Nat.zero_le _, rfl, by go_num, by simp [strSum], by omega⟩
  case round =>
    obtain ⟨k, m, hk, rfl, rfl, hm, hm2⟩ := hrel
    have HM : Hid (m = nm.size + ss.length + strSum (ss.take k)) := hm
    clear hm
    by_cases hlt : k < ss.length
    · have e := ha (ne_nil_of_lt hlt)
      subst e
      have h1 := hc k hlt
      have HS : Hid (strSum (ss.take (k + 1)) = strSum (ss.take k) + ss[k].size) := strSum_take_succ ss k hlt
      go_wp2
      · go_ret
        exact ⟨false, rfl, by simp, rfl⟩
      · go_ret
        exact ⟨false, rfl, by simp, rfl⟩
      · go_round
        case rel => exact ⟨k + 1, m + ss[k].size, by omega, by go_num, by go_num, by rw [HM.out, HS.out]; omega, by omega⟩
        case measure => simp [intOf]; omega
    · have HA : Hid (strSum (ss.take k) = strSum ss) := strSum_take_all ss k hlt
      go_wp2
      go_ret
      exact ⟨true, rfl, fun _ => by rw [← HA.out, ← HM.out]; exact hm2, rfl⟩

set_option maxHeartbeats 1000000 in
theorem zzBytes18_calls (nm : ByteArray) (a : Option Addr) (b off cap : Nat) (ss : List ByteArray) (w : World) (h : IsStrs w a b off ss) (hn : nm.size ≤ maxLen) (hlen : ss.length ≤ maxLen) :
    Calls Try.prog 18 #[.string nm, .slice a ss.length cap] w (RetB (nm.size + ss.length + strSum ss ≤ 1048576) w) := by
  unfold maxLen at hlen hn
  obtain ⟨ha, hc⟩ := h
  by_cases c0 : (1048576 : Int) < nm.size
  · go_enter Try.func18, Try.ntmps18
    go_wp2
    go_ret
    exact ⟨false, rfl, by simp, rfl⟩
  by_cases c1 : (1048576 : Int) < ss.length
  · go_enter Try.func18, Try.ntmps18
    go_wp2
    go_ret
    exact ⟨false, rfl, by simp, rfl⟩
  by_cases c2 : (1048576 : Int) < nm.size + ss.length
  · go_enter Try.func18, Try.ntmps18
    go_wp2
    go_ret
    exact ⟨false, rfl, by simp, rfl⟩
  go_enter Try.func18, Try.ntmps18
  go_wp2
  go_loop [5, 6] (fun n i => ∃ (k m : Nat), k ≤ ss.length ∧ i = .int .i64 k ∧ n = .int .i64 m ∧ m = nm.size + ss.length + strSum (ss.take k) ∧ m ≤ 1048576) (fun _ i => ss.length - (intOf i).toNat)
  case atStart => exact ⟨0, nm.size + ss.length, Nat.zero_le _, rfl, by go_num, by simp [strSum], by omega⟩
  case round =>
    obtain ⟨k, m, hk, rfl, rfl, hm, hm2⟩ := hrel
    have HM : Hid (m = nm.size + ss.length + strSum (ss.take k)) := hm
    clear hm
    by_cases hlt : k < ss.length
    · have e := ha (ne_nil_of_lt hlt)
      subst e
      have h1 := hc k hlt
      have HS : Hid (strSum (ss.take (k + 1)) = strSum (ss.take k) + ss[k].size) := strSum_take_succ ss k hlt
      go_wp2
      · go_ret
        exact ⟨false, rfl, by simp, rfl⟩
      · go_ret
        exact ⟨false, rfl, by simp, rfl⟩
      · go_round
        case rel => exact ⟨k + 1, m + ss[k].size, by omega, by go_num, by go_num, by rw [HM.out, HS.out]; omega, by omega⟩
        case measure => simp [intOf]; omega
    · have HA : Hid (strSum (ss.take k) = strSum ss) := strSum_take_all ss k hlt
      go_wp2
      go_ret
      exact ⟨true, rfl, fun _ => by rw [← HA.out, ← HM.out]; exact hm2, rfl⟩

set_option maxHeartbeats 400000 in
theorem namesBytes_calls (nm : ByteArray) (a : Option Addr) (b off cap : Nat) (ss : List ByteArray) (w : World) (h : IsStrs w a b off ss) (hlen : ss.length ≤ maxLen) :
    Calls Try.prog 14 #[.string nm, .slice a ss.length cap] w (RetI w) := by
  unfold maxLen at hlen
  obtain ⟨ha, hc⟩ := h
  go_enter Try.func14, Try.ntmps14
  go_wp2
  go_loop [5, 6] (fun n i => ∃ (k : Nat) (m : Int), k ≤ ss.length ∧ i = .int .i64 k ∧ n = .int .i64 m) (fun _ i => ss.length - (intOf i).toNat)
  case atStart => exact ⟨0, _, Nat.zero_le _, rfl, rfl⟩
  case round =>
    obtain ⟨k, m, hk, rfl, rfl⟩ := hrel
    by_cases hlt : k < ss.length
    · have e := ha (ne_nil_of_lt hlt)
      subst e
      have h1 := hc k hlt
      go_wp2
      · go_ret
        exact ⟨⟨_, rfl⟩, rfl⟩
      · go_round
        case rel => exact ⟨k + 1, _, by omega, by go_num, rfl⟩
        case measure => simp [intOf]; omega
    · go_wp2
      go_ret
      exact ⟨⟨_, rfl⟩, rfl⟩

end Go.Proofs.Qxb6604467a
