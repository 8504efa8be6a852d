import Derived.Test.Qxb6604467aKit
import Derived.Test.Qxb6604467aRows
import Derived.Deep.QuietTactic
import Derived.BigQuiet
import Derived.Lib.Strings
namespace Go.Proofs.Qxb6604467a
open Go.RowKit

/-- 's' holds 'a' at place 'k' -/
def hasAt (s : ByteArray) (k : Nat) (a : ByteArray) : Bool := decide (k ≤ s.size ∧ a.data.toList <+: s.data.toList.drop k)

theorem hasAt_eq (s a : ByteArray) (k : Nat) (h : k ≤ s.size) : ((s.extract k (k + a.size)).toList == a.toList) = hasAt s k a := by
  rw [Lib.toList_data, Lib.toList_data, Lib.extract_data, Bool.eq_iff_iff]
  simp only [hasAt, beq_iff_eq, decide_eq_true_eq]
  have e2 : a.data.toList.length = a.size := by simp
  rw [show k + a.size - k = a.data.toList.length by omega]
  constructor
  · intro he
    exact ⟨h, List.prefix_iff_eq_take.2 he.symm⟩
  · rintro ⟨_, hp⟩
    exact (List.prefix_iff_eq_take.1 hp).symm

set_option maxHeartbeats 400000 in
theorem hasAt_calls (s a : ByteArray) (k : Nat) (w : World) (hs : s.size ≤ 4611686018427387904) (hk : k ≤ 4611686018427387904) (ha : a.size ≤ 4611686018427387904) :
    Calls Try.prog 17 #[.string s, .int .i64 k, .string a] w fun e w' => e = .returned (.bool (hasAt s k a)) ∧ w' = w := by
  by_cases h1 : s.size < k
  · have : hasAt s k a = false := by simp [hasAt]; omega
    rw [this]
    go_enter Try.func17, Try.ntmps17
    go_wp2
    go_ret
    exact ⟨rfl, rfl⟩
  by_cases h2 : s.size - k < a.size
  · have : hasAt s k a = false := by
      simp [hasAt]
      intro _ h
      have := h.length_le
      simp at this
      have e1 : s.data.size = s.size := rfl
      have e2 : a.data.size = a.size := rfl
      omega
    rw [this]
    go_enter Try.func17, Try.ntmps17
    go_wp2
    go_ret
    exact ⟨rfl, rfl⟩
  go_enter Try.func17, Try.ntmps17
  go_wp2
  go_ret
  have e : ((s.extract k (k + a.size)).toList == a.toList) = hasAt s k a := hasAt_eq s a k (by omega)
  exact ⟨congrArg (fun x : Bool => Ending.returned (.bool x)) e, rfl⟩

/-- a slice of slices of numbers that is read -/
def IsSlots (w : World) (a : Option Addr) (b off : Nat) (ss : List (List Nat)) (A : Nat → Option Addr) (C Bk Of : Nat → Nat) : Prop :=
  (ss ≠ [] → a = some ⟨b, off, none⟩) ∧ ∀ i (h : i < ss.length), w.cell? ⟨b, off + i, none⟩ = some (.slice (A i) ss[i].length (C i)) ∧ (ss[i] ≠ [] → A i = some ⟨Bk i, Of i, none⟩) ∧
    ∀ j (hj : j < ss[i].length), w.cell? ⟨Bk i, Of i + j, none⟩ = some (.int .i64 (ss[i][j] : Nat))

theorem ne_nil_of_lt {α : Type} {l : List α} {k : Nat} (h : k < l.length) : l ≠ [] := by intro e; simp [e] at h

set_option maxHeartbeats 1000000 in
theorem slotsEqual_calls (ss : List (List Nat)) (a a' : Option Addr) (b b' off off' cap cap' : Nat) (A A' : Nat → Option Addr) (C C' Bk Bk' Of Of' : Nat → Nat) (w : World) (h : IsSlots w a b off ss A C Bk Of) (h' : IsSlots w a' b' off' ss A' C' Bk' Of')
    (hlen : ss.length ≤ 4611686018427387904) (hlen2 : ∀ i (h : i < ss.length), ss[i].length ≤ 4611686018427387904) :
    Calls Try.prog 11 #[.slice a ss.length cap, .slice a' ss.length cap'] w fun e w' => e = .returned (.bool true) ∧ ∃ n, w' = w.drewN n := by
  obtain ⟨ha, hc⟩ := h
  obtain ⟨ha', hc'⟩ := h'
  go_enter Try.func11, Try.ntmps11
  go_wp2
  go_loopw [5] (fun i wr => ∃ k n : Nat, k ≤ ss.length ∧ i = .int .i64 k ∧ wr = w.drewN n) (fun i _ => ss.length - (intOf i).toNat)
  case atStart => exact ⟨0, 0, Nat.zero_le _, rfl, rfl⟩
  case round =>
    obtain ⟨k, n, hk, rfl, rfl⟩ := hrel
    by_cases hlt : k < ss.length
    · have e := ha (ne_nil_of_lt hlt)
      have e' := ha' (ne_nil_of_lt hlt)
      subst e e'
      obtain ⟨c0, c1, c2⟩ := hc k hlt
      obtain ⟨c0', c1', c2'⟩ := hc' k hlt
      have hl2 := hlen2 k hlt
      clear hc hc' hlen2 ha ha'
      have hI : (k : Int) < ss.length := by omega
      go_wp2
      go_quiet (fail)
      go_wp2
      go_loopw [6] (fun i wr => ∃ j m : Nat, j ≤ ss[k].length ∧ i = .int .i64 j ∧ wr = w.drewN m) (fun i _ => ss[k].length - (intOf i).toNat)
      case atStart => exact ⟨0, n + nq, Nat.zero_le _, rfl, by simp⟩
      case round =>
        obtain ⟨j, m, hj, rfl, rfl⟩ := hrel
        by_cases hjl : j < ss[k].length
        · have e := c1 (ne_nil_of_lt hjl)
          have e' := c1' (ne_nil_of_lt hjl)
          rw [e] at c0
          rw [e'] at c0'
          have d2 := c2 j hjl
          have d2' := c2' j hjl
          have hJ : (j : Int) < ss[k].length := by omega
          clear c1 c1' c2 c2' e e'
          go_wp2
          go_quiet (fail)
          go_wp2
          go_roundw
          case rel => exact ⟨j + 1, m + nq, by omega, by go_num, by simp⟩
          case measure => simp [intOf]; omega
        · go_wp2
          go_roundw
          case rel => exact ⟨k + 1, m, by omega, by go_num, rfl⟩
          case measure => simp [intOf]; omega
    · go_wp2
      go_ret
      exact ⟨rfl, n, rfl⟩
end Go.Proofs.Qxb6604467a
