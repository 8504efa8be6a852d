import Derived.Test.Qxb6604467aHas
namespace Go.Proofs.Qxb6604467a
open Go.RowKit
set_option linter.unusedVariables false

def IsInts (w : World) (a : Option Addr) (b off : Nat) (zs : List Nat) : Prop :=
  (zs ≠ [] → a = some ⟨b, off, none⟩) ∧ ∀ i (h : i < zs.length), w.cell? ⟨b, off + i, none⟩ = some (.int .i64 (zs[i] : Nat))

def IdxPost (v : Nat) (zs : List Nat) (w : World) (e : Ending) (w' : World) : Prop :=
  w' = w ∧ ((∃ i : Nat, e = .returned (.int .i64 i) ∧ v ∈ zs) ∨ (e = .returned (.int .i64 (-1)) ∧ v ∉ zs))

set_option maxHeartbeats 400000 in
theorem index_calls (v : Nat) (zs : List Nat) (a : Option Addr) (b off cap : Nat) (w : World) (h : IsInts w a b off zs) (hl : zs.length ≤ 1048576) :
    Calls Try.prog 35 #[.slice a zs.length cap, .int .i64 v] w (IdxPost v zs w) := by
  obtain ⟨ha, hc⟩ := h
  go_enter Try.func35, Try.ntmps35
  go_wp2
  go_loop [8] (fun i => ∃ k : Nat, k ≤ zs.length ∧ i = .int .i64 k ∧ ∀ j (h : j < zs.length), j < k → zs[j] ≠ v) (fun i => zs.length - (intOf i).toNat)
  case atStart => exact ⟨0, Nat.zero_le _, rfl, by simp⟩
  case round =>
    obtain ⟨k, hk, rfl, hbef⟩ := hrel
    have HB : Hid (∀ j (h : j < zs.length), j < k → zs[j] ≠ v) := hbef
    clear hbef
    by_cases hlt : k < zs.length
    · have e := ha (ne_nil_of_lt hlt)
      subst e
      have c := hc k hlt
      obtain ⟨z, hz⟩ : ∃ z, z = zs[k] := ⟨_, rfl⟩
      rw [← hz] at c
      have HZ : Hid (z = zs[k]) := hz
      clear hz hc ha
      by_cases hv : v = z
      · have hb : ((v : Int) == (z : Int)) = true := by simp [hv]
        have HV : Hid (v = z) := hv
        clear hv
        go_wp2
        go_ret
        exact ⟨rfl, .inl ⟨k, rfl, by rw [HV.out, HZ.out]; exact List.getElem_mem hlt⟩⟩
      · have hb : ((v : Int) == (z : Int)) = false := by simp; omega
        go_wp2
        go_round
        case rel => exact ⟨k + 1, by omega, by go_num, fun j h hj => by rcases Nat.lt_succ_iff_lt_or_eq.1 hj with h1 | h1; exact HB.out j h h1; subst h1; rw [← HZ.out]; exact fun e => hv e.symm⟩
        case measure => simp [intOf]; omega
    · go_wp2
      go_ret
      refine ⟨rfl, .inr ⟨rfl, fun hm => ?_⟩⟩
      obtain ⟨j, hj, e⟩ := List.getElem_of_mem hm
      exact HB.out j hj (by omega) e

set_option maxHeartbeats 400000 in
theorem contains_calls (v : Nat) (zs : List Nat) (a : Option Addr) (b off cap : Nat) (w : World) (h : IsInts w a b off zs) (hl : zs.length ≤ 1048576) :
    Calls Try.prog 29 #[.slice a zs.length cap, .int .i64 v] w fun e w' => e = .returned (.bool (zs.contains v)) ∧ w' = w := by
  go_enter Try.func29, Try.ntmps29
  go_wp2_with fail
  refine (index_calls v zs a b off cap w h hl).mono ?_
  rintro e w' ⟨rfl, ⟨i, rfl, hm⟩ | ⟨rfl, hm⟩⟩
  · have E1 : Hid (zs.contains v = true) := by simpa [Hid] using hm
    go_wp2
    go_ret
    exact ⟨by rw [E1.out]; simp, rfl⟩
  · have E1 : Hid (zs.contains v = false) := by simpa [Hid] using hm
    go_wp2
    go_ret
    exact ⟨by rw [E1.out]; simp, rfl⟩
end Go.Proofs.Qxb6604467a
