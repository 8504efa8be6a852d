import Derived.Test.Qxb6604467aHas
import Derived.Test.Qxb6604467aOps
namespace Go.Proofs.Qxb6604467a
open Go.RowKit
set_option linter.unusedVariables false

def W (ws : List (Int × ByteArray)) (i : Nat) : Int × ByteArray := ws.getD i (0, ⟨#[]⟩)

/-- what a told source is: from the start of s on, one input at each place -/
structure SpellOK (ws : List (Int × ByteArray)) (s : ByteArray) (ss : List (List Nat)) (pl : Nat → Nat) : Prop where
  zero : pl 0 = 0
  le : ∀ k, k ≤ ss.length → pl k ≤ s.size
  none : ∀ k (h : k < ss.length), ss[k] = [] → k + 1 = ss.length ∧ pl k < s.size
  idx : ∀ k (h : k < ss.length) j (hj : j < ss[k].length), ss[k][j] < ws.length
  same : ∀ k (h : k < ss.length) j (hj : j < ss[k].length), W ws ss[k][j] = W ws (ss[k].getD 0 0)
  put : ∀ k (h : k < ss.length) j (hj : j < ss[k].length), 0 < k → (W ws ss[k][j]).1 ≠ 2
  has : ∀ k (h : k < ss.length), ss[k] ≠ [] → hasAt s (pl k) (W ws (ss[k].getD 0 0)).2 = true
  step : ∀ k (h : k < ss.length), ss[k] ≠ [] → pl (k + 1) = pl k + (W ws (ss[k].getD 0 0)).2.size
  fin : (∀ k (h : k < ss.length), ss[k] ≠ []) → pl ss.length = s.size

def initOf (ws : List (Int × ByteArray)) (ss : List (List Nat)) : Bool := ss.length == 0 || (0 < (ss.getD 0 []).length && (W ws ((ss.getD 0 []).getD 0 0)).1 == 3)

theorem W_eq {ws : List (Int × ByteArray)} {i : Nat} (h : i < ws.length) : ws[i] = W ws i := by simp [W, List.getD, h]

theorem initOf_none (ws : List (Int × ByteArray)) (ss : List (List Nat)) (h : 0 < ss.length) (h0 : ss[0] = []) : initOf ws ss = false := by
  have e : ss[0]? = some [] := by rw [List.getElem?_eq_getElem h, h0]
  simp [initOf, e]
  intro h2; simp [h2] at h

theorem initOf_some (ws : List (Int × ByteArray)) (ss : List (List Nat)) (h : 0 < ss.length) (h0 : ss[0] ≠ []) : initOf ws ss = ((W ws (ss[0].getD 0 0)).1 == 3) := by
  have e : ss[0]? = some ss[0] := by rw [List.getElem?_eq_getElem h]
  have h1 : (ss.length == 0) = false := by simp; intro h2; simp [h2] at h
  have h2 : 0 < ss[0].length := by cases h3 : ss[0] with | nil => exact absurd h3 h0 | cons => simp
  simp [initOf, e, h2]
  intro h2; simp [h2] at h

set_option maxHeartbeats 400000 in
theorem spelled_nil (ws : List (Int × ByteArray)) (s : ByteArray) (a : Option Addr) (cap : Nat) (a' : Option Addr) (cap' : Nat) (w : World) (hs : s.size = 0) :
    Calls Try.prog 12 #[.string s, .slice a ws.length cap, .slice a' 0 cap', .bool true] w fun e w' => e = .returned (.bool true) ∧ ∃ n, w' = w.drewN n := by
  go_enter Try.func12, Try.ntmps12
  go_wp2
  go_loopw [9, 10, 11] (fun p e i wr => p = .int .i64 0 ∧ e = .bool false ∧ i = .int .i64 0 ∧ wr = w) (fun _ _ i _ => 0)
  case atStart => exact ⟨rfl, rfl, rfl, rfl⟩
  case round =>
    obtain ⟨rfl, rfl, rfl, rfl⟩ := hrel
    have hq : ((0 : Int) != s.size) = false := by simp; omega
    go_wp2
    go_ret
    exact ⟨rfl, 0, rfl⟩

set_option maxHeartbeats 400000 in
theorem spelled_empty (ws : List (Int × ByteArray)) (s : ByteArray) (a : Option Addr) (cap : Nat) (b' off' cap' : Nat) (A : Option Addr) (C : Nat) (w : World) (hc : w.cell? ⟨b', off', none⟩ = some (.slice A 0 C)) (hs : 0 < s.size) :
    Calls Try.prog 12 #[.string s, .slice a ws.length cap, .slice (some ⟨b', off', none⟩) 1 cap', .bool false] w fun e w' => e = .returned (.bool true) ∧ ∃ n, w' = w.drewN n := by
  go_enter Try.func12, Try.ntmps12
  go_wp2
  go_loopw [9, 10, 11] (fun p e i wr => p = .int .i64 0 ∧ e = .bool false ∧ i = .int .i64 0 ∧ wr = w) (fun _ _ i _ => 0)
  case atStart => exact ⟨rfl, rfl, rfl, rfl⟩
  case round =>
    obtain ⟨rfl, rfl, rfl, rfl⟩ := hrel
    have hq : decide (s = ByteArray.empty) = false := decide_eq_false (by intro h; rw [h] at hs; simp at hs)
    go_wp2
    go_ret
    exact ⟨rfl, 0, rfl⟩

set_option maxRecDepth 100000 in
set_option maxHeartbeats 1000000 in
theorem spelled_some (ws : List (Int × ByteArray)) (s : ByteArray) (ss : List (List Nat)) (pl : Nat → Nat) (a : Option Addr) (b off cap : Nat) (a' : Option Addr) (b' off' cap' : Nat) (A : Nat → Option Addr) (C Bk Of : Nat → Nat) (w : World)
    (hw : IsOps w a b off ws) (hss : IsSlots w a' b' off' ss A C Bk Of) (hok : SpellOK ws s ss pl) (hs : s.size ≤ 1048576) (hwl : ws.length ≤ 1048576) (hsl : ss.length ≤ 1048577) (hsl2 : ∀ i (h : i < ss.length), ss[i].length ≤ 1048576) (hws : ∀ i, (W ws i).2.size ≤ 1048576)
    (h0 : 0 < ss.length) (hne0 : ss[0] ≠ []) :
    Calls Try.prog 12 #[.string s, .slice a ws.length cap, .slice a' ss.length cap', .bool ((W ws (ss[0].getD 0 0)).1 == 3)] w fun e w' => e = .returned (.bool true) ∧ ∃ n, w' = w.drewN n := by
  obtain ⟨ha, hc⟩ := hw
  obtain ⟨ha', hc'⟩ := hss
  have hl0 : 0 < ss[0].length := by cases h3 : ss[0] with | nil => exact absurd h3 hne0 | cons => simp
  have e := ha' (ne_nil_of_lt h0)
  subst e
  have hi0 := hok.idx 0 h0 0 hl0
  have e := ha (ne_nil_of_lt hi0)
  subst e
  -- the first slot's first writer
  obtain ⟨f0, hf0⟩ : ∃ f0, f0 = ss[0][0] := ⟨_, rfl⟩
  obtain ⟨d0, d1, d2⟩ := hc' 0 h0
  have d3 := d2 0 hl0
  have d1' := d1 hne0
  have x0 := (hc f0 (by rw [hf0]; exact hi0)).1
  rw [W_eq] at x0
  rw [d1', Nat.add_zero] at d0
  rw [Nat.add_zero, ← hf0] at d3
  have hg0 : ss[0].getD 0 0 = f0 := by rw [hf0]; simp [List.getD, hl0]
  have hf0l : f0 < ws.length := by rw [hf0]; exact hi0
  rw [hg0]
  have hz3 : ((ss.length : Int) == 0) = false := beq_eq_false_iff_ne.2 (by omega)
  have hz4 : decide (0 < (ss[0].length : Int)) = true := decide_eq_true (by omega)
  generalize hF : (W ws f0).1 = F0 at x0 ⊢
  clear d1 d2 d1' hf0 hg0 hF hi0
  go_enter Try.func12, Try.ntmps12
  go_wp2
  go_loopw [9, 10, 11] (fun p e i wr => ∃ k n : Nat, k ≤ ss.length ∧ p = .int .i64 (pl k : Nat) ∧ e = .bool false ∧ i = .int .i64 k ∧ wr = w.drewN n ∧ ∀ k' (h : k' < ss.length), k' < k → ss[k'] ≠ []) (fun _ _ i _ => ss.length - (intOf i).toNat)
  case atStart => exact ⟨0, 0, Nat.zero_le _, by rw [hok.zero]; rfl, rfl, rfl, rfl, by simp⟩
  case round =>
    obtain ⟨k, n, hk, rfl, rfl, rfl, rfl, hbef⟩ := hrel
    have hpl := hok.le k hk
    by_cases hlt : k < ss.length
    · obtain ⟨c0, c1, c2⟩ := hc' k hlt
      have hI : (k : Int) < ss.length := by omega
      have hl2 := hsl2 k hlt
      by_cases hne : ss[k] = []
      · obtain ⟨q1, q2⟩ := hok.none k hlt hne
        have hz : ((ss[k].length : Int) == 0) = true := by simp [hne]
        have hz2 : ((k : Int) != ss.length - 1) = false := by
          have : (k : Int) = ss.length - 1 := by omega
          simp [this]
        clear hc hc' hsl2 c1 c2
        go_wp2
        go_ret
        exact ⟨by simp, n, rfl⟩
      · have hlk : 0 < ss[k].length := by cases h3 : ss[k] with | nil => exact absurd h3 hne | cons => simp
        have hz : ((ss[k].length : Int) == 0) = false := beq_eq_false_iff_ne.2 (by omega)
        have hlkI : (0 : Int) < ss[k].length := by omega
        rw [c1 hne] at c0
        obtain ⟨f, hf⟩ : ∃ f, f = ss[k].getD 0 0 := ⟨_, rfl⟩
        have hf' : f = ss[k][0] := by rw [hf]; simp [List.getD, hlk]
        have hfl : f < ws.length := by rw [hf']; exact hok.idx k hlt 0 hlk
        have c20 := c2 0 hlk
        rw [Nat.add_zero, ← hf'] at c20
        obtain ⟨y0, y1⟩ := hc f hfl
        obtain ⟨Ff, Gf, hWf⟩ : ∃ F G, W ws f = (F, G) := ⟨_, _, rfl⟩
        rw [W_eq, hWf] at y0 y1
        have hfI : (f : Int) < ws.length := by omega
        have hstep := hok.step k hlt hne
        have hhas := hok.has k hlt hne
        have hwf := hws f
        have hle1 := hok.le (k + 1) (by omega)
        rw [← hf, hWf] at hstep hhas
        rw [hstep] at hle1
        rw [hWf] at hwf
        have HST : Hid (pl (k + 1) = pl k + Gf.size) := hstep
        have HHAS : Hid (hasAt s (pl k) Gf = true) := hhas
        clear hstep hhas
        have hall : ∀ j (hj : j < ss[k].length), ss[k][j] < ws.length ∧ W ws ss[k][j] = (Ff, Gf) ∧ (0 < k → Ff ≠ 2) := fun j hj => by
          have e1 := hok.same k hlt j hj
          rw [← hf, hWf] at e1
          exact ⟨hok.idx k hlt j hj, e1, fun hk0 => by have := hok.put k hlt j hj hk0; rwa [e1] at this⟩
        have HALL : Hid (∀ j (hj : j < ss[k].length), ss[k][j] < ws.length ∧ W ws ss[k][j] = (Ff, Gf) ∧ (0 < k → Ff ≠ 2)) := hall
        clear hall hf hf' hsl2 c1 hWf
        go_wp2
        go_loopw [14] (fun i wr => ∃ j m : Nat, j ≤ ss[k].length ∧ i = .int .i64 j ∧ wr = w.drewN m) (fun i _ => ss[k].length - (intOf i).toNat)
        case atStart => exact ⟨0, n, Nat.zero_le _, rfl, rfl⟩
        case round =>
          obtain ⟨j, m, hj, rfl, rfl⟩ := hrel
          by_cases hjl : j < ss[k].length
          · have c2j := c2 j hjl
            obtain ⟨z1, z2, z3⟩ := HALL.out j hjl
            obtain ⟨v0, v1⟩ := hc _ z1
            rw [W_eq, z2] at v0 v1
            have hjI : (j : Int) < ss[k].length := by omega
            obtain ⟨fi, hfi⟩ : ∃ fi, fi = ss[k][j] := ⟨_, rfl⟩
            rw [← hfi] at c2j v0 v1 z1
            have hfiI : (fi : Int) < ws.length := by omega
            clear z2 c2 hc hc' hfi
            by_cases hk0 : 0 < k
            · have hne2 : (Ff == 2) = false := beq_eq_false_iff_ne.2 (z3 hk0)
              clear z3
              go_wp2
              go_quiet (fail)
              go_wp2
              go_roundw
              case rel => exact ⟨j + 1, m + nq, by omega, by go_num, by simp⟩
              case measure => simp [intOf]; omega
            · clear z3
              go_wp2
              go_quiet (fail)
              go_wp2
              go_roundw
              case rel => exact ⟨j + 1, m + nq, by omega, by go_num, by simp⟩
              case measure => simp [intOf]; omega
          · clear c2 hc hc'
            go_wp2_with fail
            refine (hasAt_calls _ _ _ _ (by omega) (by omega) (by omega)).mono ?_
            rintro e w' ⟨rfl, rfl⟩
            rw [HHAS.out]
            go_wp2
            go_roundw
            case rel => exact ⟨k + 1, m, by omega, by rw [HST.out]; go_num, rfl, by go_num, rfl, fun k' h hk' => by rcases Nat.lt_succ_iff_lt_or_eq.1 hk' with h1 | h1; exact hbef k' h h1; subst h1; exact hne⟩
            case measure => simp [intOf]; omega
    · have hkl : k = ss.length := by omega
      have hfin := hok.fin (fun k' h => hbef k' h (by omega))
      rw [← hkl] at hfin
      have hq : ((pl k : Int) != s.size) = false := by rw [hfin]; simp
      clear hfin hkl hc hc' hsl2
      go_wp2
      go_ret
      exact ⟨by simp, n, rfl⟩

theorem spelled_calls (ws : List (Int × ByteArray)) (s : ByteArray) (ss : List (List Nat)) (pl : Nat → Nat) (a : Option Addr) (b off cap : Nat) (a' : Option Addr) (b' off' cap' : Nat) (A : Nat → Option Addr) (C Bk Of : Nat → Nat) (w : World)
    (hw : IsOps w a b off ws) (hss : IsSlots w a' b' off' ss A C Bk Of) (hok : SpellOK ws s ss pl) (hs : s.size ≤ 1048576) (hwl : ws.length ≤ 1048576) (hsl : ss.length ≤ 1048577) (hsl2 : ∀ i (h : i < ss.length), ss[i].length ≤ 1048576) (hws : ∀ i, (W ws i).2.size ≤ 1048576) :
    Calls Try.prog 12 #[.string s, .slice a ws.length cap, .slice a' ss.length cap', .bool (initOf ws ss)] w fun e w' => e = .returned (.bool true) ∧ ∃ n, w' = w.drewN n := by
  by_cases h0 : 0 < ss.length
  · by_cases hne : ss[0] = []
    · obtain ⟨q1, q2⟩ := hok.none 0 h0 hne
      rw [initOf_none ws ss h0 hne, ← q1]
      have e := hss.1 (ne_nil_of_lt h0)
      subst e
      obtain ⟨c0, _, _⟩ := hss.2 0 h0
      rw [hne, Nat.add_zero] at c0
      exact spelled_empty ws s a cap b' off' cap' (A 0) (C 0) w c0 (by omega)
    · rw [initOf_some ws ss h0 hne]
      exact spelled_some ws s ss pl a b off cap a' b' off' cap' A C Bk Of w hw hss hok hs hwl hsl hsl2 hws h0 hne
  · have e : ss = [] := by cases ss with | nil => rfl | cons => simp at h0
    subst e
    have h1 := hok.fin (by simp)
    simp only [List.length_nil] at h1
    rw [hok.zero] at h1
    exact spelled_nil ws s a cap a' cap' w h1.symm
end Go.Proofs.Qxb6604467a
