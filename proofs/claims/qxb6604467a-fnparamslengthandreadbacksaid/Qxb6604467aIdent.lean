import Derived.Test.Qxb6604467aLaw2
namespace Go.Proofs.Qxb6604467a
open Go.RowKit
set_option linter.unusedVariables false

/-- a letter, a digit or the low line -/
def identB (c : UInt8) : Bool := (decide (97 ≤ c.toNat) && decide (c.toNat ≤ 122)) || (decide (65 ≤ c.toNat) && decide (c.toNat ≤ 90)) || (decide (48 ≤ c.toNat) && decide (c.toNat ≤ 57)) || decide (c.toNat = 95)

set_option maxHeartbeats 1000000 in
theorem identByte_calls (c : UInt8) (w : World) : Calls Try.prog 32 #[.int .u8 (c.toNat : Int)] w fun e w' => e = .returned (.bool (identB c)) ∧ w' = w := by
  have hb : identB c = identB c := rfl
  conv at hb => rhs; unfold identB
  rw [hb]
  clear hb
  generalize hn : c.toNat = n
  clear hn
  by_cases h1 : 97 ≤ n <;> by_cases h2 : n ≤ 122 <;> by_cases h3 : 65 ≤ n <;> by_cases h4 : n ≤ 90 <;> by_cases h5 : 48 ≤ n <;> by_cases h6 : n ≤ 57 <;> by_cases h7 : n = 95
  all_goals first
    | (exfalso; omega)
    | (go_enter Try.func32, Try.ntmps32
       go_wp2
       go_ret
       refine ⟨?_, rfl⟩
       simp [h1, h2, h3, h4, h5, h6, h7]
       try omega)

/-- every name is an identifier -/
def AllId (ss : List ByteArray) : Prop := ∀ i (h : i < ss.length), 0 < ss[i].size ∧ ∀ j (hj : j < ss[i].size), identB ss[i][j] = true

set_option maxHeartbeats 1000000 in
theorem allIdents_calls (a : Option Addr) (b off cap : Nat) (ss : List ByteArray) (w : World) (h : IsStrs w a b off ss) (hlen : ss.length ≤ 1048576) (hsum : strSum ss ≤ 1048576) :
    Calls Try.prog 19 #[.slice a ss.length cap] w (RetB (AllId ss) w) := by
  obtain ⟨ha, hc⟩ := h
  go_enter Try.func19, Try.ntmps19
  go_wp2
  go_loopw [3] (fun i wr => ∃ (k : Nat), k ≤ ss.length ∧ i = .int .i64 k ∧ wr = w ∧ ∀ i (h : i < ss.length), i < k → 0 < ss[i].size ∧ ∀ j (hj : j < ss[i].size), identB ss[i][j] = true) (fun i _ => ss.length - (intOf i).toNat)
  case atStart => exact ⟨0, Nat.zero_le _, rfl, rfl, by intro i h h'; omega⟩
  case round =>
    obtain ⟨k, hk, rfl, hwr, hall⟩ := hrel
    have hwr := hwr.symm
    subst hwr
    by_cases hlt : k < ss.length
    · have e := ha (ne_nil_of_lt hlt)
      subst e
      have h1 := hc k hlt
      have hsk := le_strSum ss _ (List.getElem_mem hlt)
      obtain ⟨s, hs⟩ : ∃ s, s = ss[k] := ⟨_, rfl⟩
      rw [← hs] at h1 hsk
      have HS : Hid (s = ss[k]) := hs
      clear hs hc
      by_cases h0 : s.size = 0
      · go_wp2
        go_ret
        exact ⟨false, rfl, by simp, rfl⟩
      go_wp2
      go_loopw [4] (fun i wr => ∃ (j : Nat), j ≤ s.size ∧ i = .int .i64 j ∧ wr = w ∧ ∀ j' (hj : j' < s.size), j' < j → identB s[j'] = true) (fun i _ => s.size - (intOf i).toNat)
      case atStart => exact ⟨0, Nat.zero_le _, rfl, rfl, by intro i h h'; omega⟩
      case round =>
        obtain ⟨j, hj, rfl, hwr, hal2⟩ := hrel
        have hwr := hwr.symm
        subst hwr
        by_cases hjl : j < s.size
        · have hJ : (j : Int) < s.size := by omega
          go_wp2_with fail
          refine (identByte_calls s[j] w).mono ?_
          rintro e w' ⟨rfl, hww⟩
          have hww := hww.symm
          subst hww
          cases hid : identB s[j] with
          | false =>
            go_wp2
            go_ret
            exact ⟨false, rfl, by simp, rfl⟩
          | true =>
            have HID : Hid (identB s[j] = true) := hid
            clear hid
            go_wp2
            go_roundw
            case rel =>
              refine ⟨j + 1, by omega, by go_num, trivial, ?_⟩
              intro j' hj' h2
              by_cases e : j' = j
              · subst e
                exact HID.out
              · exact hal2 j' hj' (by omega)
            case measure => simp [intOf]; omega
        · go_wp2
          go_roundw
          case rel =>
            refine ⟨k + 1, by omega, by go_num, trivial, ?_⟩
            intro i hi h2
            by_cases e : i = k
            · subst e
              rw [← HS.out]
              exact ⟨by omega, fun j' hj' => hal2 j' hj' (by omega)⟩
            · exact hall i hi (by omega)
          case measure => simp [intOf]; omega
    · go_wp2
      go_ret
      exact ⟨true, rfl, fun _ i hi => hall i hi (by omega), rfl⟩

end Go.Proofs.Qxb6604467a
