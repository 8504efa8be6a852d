import Derived.Test.Qxb6604467aParams
namespace Go.Proofs.Qxb6604467a
open Go.RowKit
set_option linter.unusedVariables false

theorem hasAt_of {got a : ByteArray} {k : Nat} {pre x post : List UInt8} (hg : bl got = pre ++ x ++ post) (ha : bl a = x) (hk : k = pre.length) : hasAt got k a = true := by
  subst hk
  have e1 : got.size = (bl got).length := by simp [bl]
  simp only [hasAt, decide_eq_true_eq]
  refine ⟨by rw [e1, hg, List.append_assoc, List.length_append]; omega, ?_⟩
  show bl a <+: (bl got).drop pre.length
  rw [hg, ha, List.append_assoc, List.drop_left]
  exact List.prefix_append _ _

/-- zzHasAt, its place a number that the walk has reckoned -/
theorem hasAtI (s a : ByteArray) (p : Int) (k : Nat) (w : World) (hp : p = (k : Int)) (h : hasAt s k a = true) (hs : s.size ≤ 4611686018427387904) (hk : k ≤ 4611686018427387904) (ha : a.size ≤ 4611686018427387904) :
    Calls Try.prog 17 #[.string s, .int .i64 p, .string a] w fun e w' => e = .returned (.bool true) ∧ w' = w := by
  subst hp
  have := hasAt_calls s a k w hs hk ha
  rwa [h] at this

/-- what is still to be read, k names having been read -/
def restText (cs : List (List UInt8)) (k : Nat) : List UInt8 := if k = 0 then listText cs else tailText (cs.drop k)

theorem tail_step (cs : List (List UInt8)) (k : Nat) (h : k < cs.length) : tailText (cs.drop k) = (if k + 1 = cs.length then [32, 97, 110, 100, 32] else [44, 32]) ++ cs[k] ++ tailText (cs.drop (k + 1)) := by
  rw [List.drop_eq_getElem_cons h]
  by_cases e : k + 1 = cs.length
  · rw [if_pos e, List.drop_eq_nil_of_le (by omega)]
    simp [tailText]
  · rw [if_neg e, List.drop_eq_getElem_cons (by omega)]
    simp [tailText]

theorem rest_first (cs : List (List UInt8)) (h : 0 < cs.length) : restText cs 0 = cs[0] ++ restText cs 1 := by
  cases cs with
  | nil => simp at h
  | cons x r => simp [restText, listText]

theorem rest_step (cs : List (List UInt8)) (k : Nat) (h0 : 0 < k) (h : k < cs.length) : restText cs k = (if k + 1 = cs.length then [32, 97, 110, 100, 32] else [44, 32]) ++ cs[k] ++ restText cs (k + 1) := by
  have e1 : restText cs k = tailText (cs.drop k) := by unfold restText; rw [if_neg (by omega)]
  have e2 : restText cs (k + 1) = tailText (cs.drop (k + 1)) := by unfold restText; rw [if_neg (by omega)]
  rw [e1, e2, tail_step cs k h]

theorem rest_end (cs : List (List UInt8)) (h : 0 < cs.length) : restText cs cs.length = [] := by
  unfold restText
  rw [if_neg (by omega), List.drop_eq_nil_of_le (Nat.le_refl _)]
  rfl


def LawPost (w : World) (e : Ending) (w' : World) : Prop := e = .returned (.bool true) ∧ Below w.heap.size w w'

theorem buildOp_any (nm : ByteArray) (a : Option Addr) (b off cap : Nat) (ss : List ByteArray) (w : World) (h : IsStrs w a b off ss) (hnil : a = none → ss = [] ∧ cap = 0) (hlen : ss.length ≤ 1048576) (hb : ss ≠ [] → b < w.heap.size) :
    Calls Try.prog 16 #[.string nm, .slice a ss.length cap] w (BuildOpPost nm ss w) := by
  cases a with
  | none =>
    obtain ⟨rfl, rfl⟩ := hnil rfl
    exact buildOp_nil nm w
  | some x => exact buildOp_some nm x b off cap ss w h hlen hb

theorem paramsText_len (nm : ByteArray) (ss : List ByteArray) (hn : nm.size ≤ 1048576) (hl : ss.length ≤ 1048576) (hs : strSum ss ≤ 1048576) : (paramsText nm ss).length ≤ 16777216 := by
  unfold paramsText
  by_cases hne : ss = []
  · rw [if_pos hne]
    have : (bl nm).length = nm.size := by simp [bl]
    simp
    omega
  · rw [if_neg hne, ← map_col_bl]
    cases ss with
    | nil => exact absurd rfl hne
    | cons x r =>
      have h1 : ∀ r : List (List UInt8), (tailText r).length ≤ 5 * r.length + (r.map List.length).sum := by
        intro r
        induction r with
        | nil => simp [tailText]
        | cons y r ih =>
          cases r with
          | nil => simp [tailText]; omega
          | cons z r => simp [tailText] at ih ⊢; omega
      rw [List.map_cons, List.map_cons, listText, List.length_append]
      have h2 := h1 ((r.map col).map bl)
      rw [colSum] at h2
      have h3 : (bl (col x)).length = x.size + 1 := by rw [bl_col]; simp [bl]
      have e : strSum (x :: r) = x.size + strSum r := rfl
      simp at hl h2 ⊢
      omega

set_option maxRecDepth 100000 in
set_option maxHeartbeats 2000000 in
theorem law2_walk (nm : ByteArray) (a : Option Addr) (b off cap : Nat) (ss : List ByteArray) (w : World) (h : IsStrs w a b off ss) (hnil : a = none → ss = [] ∧ cap = 0) (hb : ss ≠ [] → b < w.heap.size) (hn : nm.size ≤ maxLen) (hlen : ss.length ≤ maxLen) :
    Calls Try.prog 4 #[.string nm, .slice a ss.length cap] w (LawPost w) := by
  go_enter Try.func4, Try.ntmps4
  go_wp2_with fail
  refine (zzBytes13_calls nm a b off cap ss w h hn hlen).mono ?_
  rintro e w' ⟨r, rfl, hr, hww⟩
  have hww := hww.symm
  subst hww
  cases r with
  | false =>
    go_wp2
    go_ret
    exact ⟨rfl, Below.refl _ _⟩
  | true =>
    have hbd := hr rfl
    clear hr
    by_cases h65 : ss.length ≤ 65536
    · go_wp2_with fail
      refine (namesBytes_calls nm a b off cap ss w h hlen).mono ?_
      rintro e w' ⟨⟨m1, rfl⟩, hww⟩
      have hww := hww.symm
      subst hww
      go_wp2_with fail
      · go_ret
        exact ⟨rfl, Below.refl _ _⟩
      refine (buildOp_any nm a b off cap ss w h hnil (by omega) hb).mono ?_
      rintro e w1 ⟨Bo, rfl, hb1, hop⟩
      have hs1 := hb1.size
      go_wp2_with fail
      refine (zzparams_calls nm ss Bo w1 hop (by omega) (by omega) (by omega)).mono ?_
      rintro e w2 ⟨rfl, hb2⟩
      have hbw2 : Below w.heap.size w w2 := hb1.trans (hb2.mono hs1)
      have htl := paramsText_len nm ss (by omega) (by omega) (by omega)
      by_cases hne : ss = []
      · subst hne
        have hgot : (⟨(paramsText nm []).toArray⟩ : ByteArray) = nm ++ ⟨#[32, 104, 97, 115, 32, 110, 111, 110, 101]⟩ := by
          apply ByteArray.ext
          rw [ByteArray.data_append]
          simp [paramsText, bl]
        rw [hgot]
        have i7 : ¬ 9223372036854775807 < nm.size + 9 := by omega
        go_wp2
        go_ret
        exact ⟨by simp, hbw2⟩
      · obtain ⟨got, hgot⟩ : ∃ got : ByteArray, got = ⟨(paramsText nm ss).toArray⟩ := ⟨_, rfl⟩
        rw [← hgot]
        have hbl : bl got = listText (ss.map fun s => 58 :: bl s) := by
          rw [hgot]
          show (paramsText nm ss).toArray.toList = _
          rw [paramsText, if_neg hne]
        have hgs : got.size ≤ 16777216 := by
          rw [hgot]
          show (paramsText nm ss).toArray.size ≤ _
          simpa using htl
        have hl0 : 0 < ss.length := by cases h5 : ss with | nil => exact absurd h5 hne | cons => simp
        have hz : ((ss.length : Int) == 0) = false := beq_eq_false_iff_ne.2 (by omega)
        have HB : Hid (bl got = listText (ss.map fun s => 58 :: bl s)) := hbl
        clear hgot hbl htl
        go_wp2
        go_loopw [7, 8] (fun t7 t8 wr => ∃ (k P : Nat) (dn : List UInt8), t7 = .int .i64 P ∧ t8 = .int .i64 k ∧ k ≤ ss.length ∧ P = dn.length ∧ bl got = dn ++ restText (ss.map fun s => 58 :: bl s) k ∧ wr = w2) (fun _ t8 _ => ss.length - (intOf t8).toNat)
        case atStart => exact ⟨0, 0, [], rfl, rfl, Nat.zero_le _, rfl, by rw [HB.out]; rfl, rfl⟩
        case round =>
          obtain ⟨k, P, dn, rfl, rfl, hk, hP, hdn, hwr⟩ := hrel
          have hwr := hwr.symm
          subst hwr
          have hPs : P ≤ got.size := by
            have e1 : got.size = (bl got).length := by simp [bl]
            rw [e1, hdn, hP]
            simp
          have HP : Hid (P = dn.length) := hP
          have HD : Hid (bl got = dn ++ restText (ss.map fun s => 58 :: bl s) k) := hdn
          clear hP hdn
          by_cases hlt : k < ss.length
          · have hclt : k < (ss.map fun s => 58 :: bl s).length := by simpa using hlt
            have hck : (ss.map fun s => 58 :: bl s)[k] = 58 :: bl ss[k] := by simp
            have e := h.1 hne
            subst e
            have c1 := (hbw2.cell (p := ⟨b, off + k, none⟩) (hb hne)).trans (h.2 k hlt)
            have hsk := le_strSum ss _ (List.getElem_mem hlt)
            obtain ⟨s, hs⟩ : ∃ s, s = ss[k] := ⟨_, rfl⟩
            rw [← hs] at c1 hsk hck
            have HS : Hid (s = ss[k]) := hs
            clear hs
            have hss : (bl s).length = s.size := by simp [bl]
            by_cases hk0 : k = 0
            · have HD0 : Hid (bl got = dn ++ [58] ++ (bl s ++ restText (ss.map fun s => 58 :: bl s) (k + 1))) := by
                have := HD.out
                subst hk0
                rw [rest_first _ hclt, hck] at this
                rw [Hid, this]
                simp
              have hkk : ¬ 0 < k := by omega
              clear hk0
              have hle : P + 1 + s.size ≤ got.size := by
                have e1 : got.size = (bl got).length := by simp [bl]
                rw [e1, HD0.out, HP.out]
                simp
                omega
              go_wp2_with fail
              refine (hasAtI got ⟨#[58]⟩ _ P w2 rfl (hasAt_of HD0.out rfl HP.out) (by omega) (by omega) (by decide)).mono ?_
              rintro e w' ⟨rfl, hww⟩
              have hww := hww.symm
              subst hww
              go_wp2_with fail
              refine (hasAtI got s _ (P + 1) w2 (by omega) (hasAt_of (pre := dn ++ [58]) (x := bl s) (post := restText (ss.map fun s => 58 :: bl s) (k + 1)) (by rw [HD0.out]; simp) rfl (by rw [HP.out]; simp)) (by omega) (by omega) (by omega)).mono ?_
              rintro e w' ⟨rfl, hww⟩
              have hww := hww.symm
              subst hww
              go_wp2
              go_roundw
              case rel => exact ⟨k + 1, P + 1 + s.size, dn ++ [58] ++ bl s, by go_num, by go_num, by omega, by rw [HP.out]; simp [hss]; omega, by rw [HD0.out]; simp, trivial⟩
              case measure => simp [intOf]; omega
            · have hkp : 0 < k := by omega
              have hst := rest_step _ k hkp hclt
              rw [List.length_map, hck] at hst
              by_cases hkl : k + 1 = ss.length
              · rw [if_pos hkl] at hst
                have hb2 : ((k : Int) == (ss.length : Int) - 1) = true := beq_iff_eq.2 (by omega)
                clear hkl
                have HD0 : Hid (bl got = dn ++ [32, 97, 110, 100, 32] ++ ([58] ++ (bl s ++ restText (ss.map fun s => 58 :: bl s) (k + 1)))) := by
                  rw [Hid, HD.out, hst]
                  simp
                clear hst hck
                have hle : P + 5 + 1 + s.size ≤ got.size := by
                  have e1 : got.size = (bl got).length := by simp [bl]
                  rw [e1, HD0.out, HP.out]
                  simp
                  omega
                go_wp2_with fail
                refine (hasAtI got ⟨#[32, 97, 110, 100, 32]⟩ _ P w2 rfl (hasAt_of HD0.out rfl HP.out) (by omega) (by omega) (by decide)).mono ?_
                rintro e w' ⟨rfl, hww⟩
                have hww := hww.symm
                subst hww
                go_wp2_with fail
                refine (hasAtI got ⟨#[58]⟩ _ (P + 5) w2 (by omega) (hasAt_of (pre := dn ++ [32, 97, 110, 100, 32]) (x := [58]) (post := bl s ++ restText (ss.map fun s => 58 :: bl s) (k + 1)) (by rw [HD0.out]; simp) rfl (by rw [HP.out]; simp)) (by omega) (by omega) (by decide)).mono ?_
                rintro e w' ⟨rfl, hww⟩
                have hww := hww.symm
                subst hww
                go_wp2_with fail
                refine (hasAtI got s _ (P + 5 + 1) w2 (by omega) (hasAt_of (pre := dn ++ [32, 97, 110, 100, 32] ++ [58]) (x := bl s) (post := restText (ss.map fun s => 58 :: bl s) (k + 1)) (by rw [HD0.out]; simp) rfl (by rw [HP.out]; simp)) (by omega) (by omega) (by omega)).mono ?_
                rintro e w' ⟨rfl, hww⟩
                have hww := hww.symm
                subst hww
                go_wp2
                go_roundw
                case rel => exact ⟨k + 1, P + 5 + 1 + s.size, dn ++ [32, 97, 110, 100, 32] ++ [58] ++ bl s, by go_num, by go_num, by omega, by rw [HP.out]; simp [hss]; omega, by rw [HD0.out]; simp, trivial⟩
                case measure => simp [intOf]; omega
              · rw [if_neg hkl] at hst
                have hb2 : ((k : Int) == (ss.length : Int) - 1) = false := beq_eq_false_iff_ne.2 (by omega)
                clear hkl
                have HD0 : Hid (bl got = dn ++ [44, 32] ++ ([58] ++ (bl s ++ restText (ss.map fun s => 58 :: bl s) (k + 1)))) := by
                  rw [Hid, HD.out, hst]
                  simp
                clear hst hck
                have hle : P + 2 + 1 + s.size ≤ got.size := by
                  have e1 : got.size = (bl got).length := by simp [bl]
                  rw [e1, HD0.out, HP.out]
                  simp
                  omega
                go_wp2_with fail
                refine (hasAtI got ⟨#[44, 32]⟩ _ P w2 rfl (hasAt_of HD0.out rfl HP.out) (by omega) (by omega) (by decide)).mono ?_
                rintro e w' ⟨rfl, hww⟩
                have hww := hww.symm
                subst hww
                go_wp2_with fail
                refine (hasAtI got ⟨#[58]⟩ _ (P + 2) w2 (by omega) (hasAt_of (pre := dn ++ [44, 32]) (x := [58]) (post := bl s ++ restText (ss.map fun s => 58 :: bl s) (k + 1)) (by rw [HD0.out]; simp) rfl (by rw [HP.out]; simp)) (by omega) (by omega) (by decide)).mono ?_
                rintro e w' ⟨rfl, hww⟩
                have hww := hww.symm
                subst hww
                go_wp2_with fail
                refine (hasAtI got s _ (P + 2 + 1) w2 (by omega) (hasAt_of (pre := dn ++ [44, 32] ++ [58]) (x := bl s) (post := restText (ss.map fun s => 58 :: bl s) (k + 1)) (by rw [HD0.out]; simp) rfl (by rw [HP.out]; simp)) (by omega) (by omega) (by omega)).mono ?_
                rintro e w' ⟨rfl, hww⟩
                have hww := hww.symm
                subst hww
                go_wp2
                go_roundw
                case rel => exact ⟨k + 1, P + 2 + 1 + s.size, dn ++ [44, 32] ++ [58] ++ bl s, by go_num, by go_num, by omega, by rw [HP.out]; simp [hss]; omega, by rw [HD0.out]; simp, trivial⟩
                case measure => simp [intOf]; omega
          · have hkl : k = (ss.map fun s => 58 :: bl s).length := by simp; omega
            have HE : Hid (P = got.size) := by
              have e1 : got.size = (bl got).length := by simp [bl]
              have := HD.out
              rw [hkl, rest_end _ (by simpa using hl0), List.append_nil] at this
              rw [Hid, e1, this, HP.out]
            clear hkl
            have hb2 : ((P : Int) == (got.size : Int)) = true := beq_iff_eq.2 (by rw [HE.out])
            go_wp2
            go_ret
            exact ⟨by simp, hbw2⟩
    · have : ¬ (ss.length : Int) ≤ 65536 := by omega
      go_wp2
      go_ret
      exact ⟨rfl, Below.refl _ _⟩
end Go.Proofs.Qxb6604467a
