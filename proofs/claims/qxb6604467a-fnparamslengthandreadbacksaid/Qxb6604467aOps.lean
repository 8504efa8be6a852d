import Derived.Test.Qxb6604467aRows
import Derived.WalkKit
import Derived.WalkSpells
namespace Go.Proofs.Qxb6604467a
open Go.RowKit

/-- What a walk is told of a slice of operations that came in. -/
def IsOps (w : World) (a : Option Addr) (b off : Nat) (ops : List (Int × ByteArray)) : Prop :=
  (ops ≠ [] → a = some ⟨b, off, none⟩) ∧
  ∀ i (h : i < ops.length), w.cell? ⟨b, off + i * 2, none⟩ = some (.int .i64 ops[i].1) ∧ w.cell? ⟨b, off + i * 2 + 1, none⟩ = some (.string ops[i].2)

set_option maxHeartbeats 400000 in
theorem opsBytes_calls (a : Option Addr) (b off cap : Nat) (ops : List (Int × ByteArray)) (w : World) (h : IsOps w a b off ops) (hlen : ops.length ≤ maxLen) :
    Calls Try.prog 8 #[.slice a ops.length cap] w fun e w' => (∃ m : Int, e = .returned (.int .i64 m)) ∧ w' = w := by
  unfold maxLen at hlen
  obtain ⟨ha, hc⟩ := h
  go_enter Try.func8, Try.ntmps8
  go_wp2
  go_loop [3, 4] (fun n i => ∃ (k : Nat) (m : Int), k ≤ ops.length ∧ i = .int .i64 k ∧ n = .int .i64 m) (fun _ i => ops.length - (intOf i).toNat)
  case atStart => exact ⟨0, 0, Nat.zero_le _, rfl, rfl⟩
  case round =>
    obtain ⟨k, m, hk, rfl, rfl⟩ := hrel
    by_cases hlt : k < ops.length
    · have e := ha (by intro e; simp [e] at hlt)
      subst e
      obtain ⟨h0, h1⟩ := hc k hlt
      go_wp2
      · go_ret
        exact ⟨⟨_, rfl⟩, rfl⟩
      · go_round
        case rel => exact ⟨k + 1, _, by omega, by go_num, rfl⟩
        case measure => simp [intOf]; omega
    · go_wp2
      go_ret
      exact ⟨⟨_, rfl⟩, rfl⟩

/-- a bool is handed back, true only where p holds; the world stands -/
def RetB (p : Prop) (w : World) (e : Ending) (w' : World) : Prop := ∃ r : Bool, e = .returned (.bool r) ∧ (r = true → p) ∧ w' = w

/-- the bytes of all arguments of operations -/
def argSum (ops : List (Int × ByteArray)) : Nat := (ops.map fun x => x.2.size).sum

theorem argSum_take_succ (ops : List (Int × ByteArray)) (k : Nat) (h : k < ops.length) : argSum (ops.take (k + 1)) = argSum (ops.take k) + ops[k].2.size := by
  unfold argSum
  rw [List.take_succ_eq_append_getElem h, List.map_append, List.sum_append]
  simp

theorem argSum_take_all (ops : List (Int × ByteArray)) (k : Nat) (h : ¬ k < ops.length) : argSum (ops.take k) = argSum ops := by
  rw [List.take_of_length_le (by omega)]

set_option maxHeartbeats 1000000 in
theorem zzBytes7_calls (a : Option Addr) (b off cap : Nat) (ws : List (Int × ByteArray)) (a' : Option Addr) (b' off' cap' : Nat) (gs : List (Int × ByteArray)) (w : World) (h : IsOps w a b off ws) (h' : IsOps w a' b' off' gs) (hlen : ws.length ≤ maxLen) (hlen' : gs.length ≤ maxLen) :
    Calls Try.prog 7 #[.slice a ws.length cap, .slice a' gs.length cap'] w (RetB (ws.length + argSum ws + gs.length + argSum gs ≤ 1048576) w) := by
  unfold maxLen at hlen hlen'
  obtain ⟨ha, hc⟩ := h
  obtain ⟨ha', hc'⟩ := h'
  by_cases c1 : (1048576 : Int) < ws.length
  · go_enter Try.func7, Try.ntmps7
    go_wp2
    go_ret
    exact ⟨false, rfl, by simp, rfl⟩
  go_enter Try.func7, Try.ntmps7
  go_wp2
  go_loop [5, 6] (fun n i => ∃ (k m : Nat), k ≤ ws.length ∧ i = .int .i64 k ∧ n = .int .i64 m ∧ m = ws.length + argSum (ws.take k) ∧ m ≤ 1048576) (fun _ i => ws.length - (intOf i).toNat)
  case atStart => exact ⟨0, _, Nat.zero_le _, rfl, rfl, by simp [argSum], by omega⟩
  case round =>
    obtain ⟨k, m, hk, rfl, rfl, hm, hm2⟩ := hrel
    have HM : Hid (m = ws.length + argSum (ws.take k)) := hm
    clear hm
    by_cases hlt : k < ws.length
    · have e := ha (by intro e; simp [e] at hlt)
      subst e
      obtain ⟨h0, h1⟩ := hc k hlt
      have HS : Hid (argSum (ws.take (k + 1)) = argSum (ws.take k) + ws[k].2.size) := argSum_take_succ ws k hlt
      go_wp2
      · go_ret
        exact ⟨false, rfl, by simp, rfl⟩
      · go_ret
        exact ⟨false, rfl, by simp, rfl⟩
      · go_round
        case rel => exact ⟨k + 1, m + ws[k].2.size, by omega, by go_num, by go_num, by rw [HM.out, HS.out]; omega, by omega⟩
        case measure => simp [intOf]; omega
    · have HA : Hid (argSum (ws.take k) = argSum ws) := argSum_take_all ws k hlt
      by_cases c2 : (1048576 : Int) < gs.length
      · go_wp2
        go_ret
        exact ⟨false, rfl, by simp, rfl⟩
      go_wp2
      · go_ret
        exact ⟨false, rfl, by simp, rfl⟩
      go_loop [5, 7] (fun n i => ∃ (k' m' : Nat), k' ≤ gs.length ∧ i = .int .i64 k' ∧ n = .int .i64 m' ∧ m' = ws.length + argSum ws + gs.length + argSum (gs.take k') ∧ m' ≤ 1048576) (fun _ i => gs.length - (intOf i).toNat)
      case atStart => exact ⟨0, m + gs.length, Nat.zero_le _, rfl, by go_num, by simp [argSum]; rw [HM.out, HA.out]; rfl, by omega⟩
      case round =>
        obtain ⟨k', m', hk', rfl, rfl, hm', hm2'⟩ := hrel
        have HM' : Hid (m' = ws.length + argSum ws + gs.length + argSum (gs.take k')) := hm'
        clear hm'
        by_cases hlt' : k' < gs.length
        · have e := ha' (by intro e; simp [e] at hlt')
          subst e
          obtain ⟨h0', h1'⟩ := hc' k' hlt'
          have HS : Hid (argSum (gs.take (k' + 1)) = argSum (gs.take k') + gs[k'].2.size) := argSum_take_succ gs k' hlt'
          go_wp2
          · go_ret
            exact ⟨false, rfl, by simp, rfl⟩
          · go_ret
            exact ⟨false, rfl, by simp, rfl⟩
          · go_round
            case rel => exact ⟨k' + 1, m' + gs[k'].2.size, by omega, by go_num, by go_num, by rw [HM'.out, HS.out]; omega, by omega⟩
            case measure => simp [intOf]; omega
        · have HA' : Hid (argSum (gs.take k') = argSum gs) := argSum_take_all gs k' hlt'
          go_wp2
          go_ret
          exact ⟨true, rfl, fun _ => by rw [← HA'.out, ← HM'.out]; exact hm2', rfl⟩
end Go.Proofs.Qxb6604467a
