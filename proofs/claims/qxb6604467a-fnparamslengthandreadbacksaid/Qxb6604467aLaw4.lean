import Derived.Test.Qxb6604467aRead
import Derived.Deep.QuietTactic
import Derived.BigQuiet
namespace Go.Proofs.Qxb6604467a
open Go.RowKit
set_option linter.unusedVariables false

theorem tailText_len : ∀ r : List (List UInt8), r ≠ [] → (tailText r).length = (r.map List.length).sum + 5 + 2 * (r.length - 1)
  | [], h => absurd rfl h
  | [x], _ => by simp [tailText]
  | x :: y :: r, _ => by
    have ih := tailText_len (y :: r) (by simp)
    rw [tailText, List.length_append, List.length_append, ih]
    simp
    omega

theorem sum_cols : ∀ ss : List ByteArray, ((ss.map fun s => 58 :: bl s).map List.length).sum = strSum ss + ss.length
  | [] => rfl
  | x :: r => by
    have ih := sum_cols r
    have e : strSum (x :: r) = x.size + strSum r := rfl
    have e2 : (bl x).length = x.size := by simp [bl]
    rw [List.map_cons, List.map_cons, List.sum_cons, ih, e, List.length_cons, List.length_cons, e2]
    omega

theorem listText_len (ss : List ByteArray) (h : ss ≠ []) : (listText (ss.map fun s => 58 :: bl s)).length = strSum ss + ss.length + if 2 ≤ ss.length then 5 + 2 * (ss.length - 2) else 0 := by
  cases ss with
  | nil => exact absurd rfl h
  | cons x r =>
    have e : strSum (x :: r) = x.size + strSum r := rfl
    have e2 : (bl x).length = x.size := by simp [bl]
    rw [List.map_cons, listText, List.length_append, List.length_cons, e2, e, List.length_cons]
    cases r with
    | nil => simp [tailText, strSum]
    | cons y r =>
      have h1 := tailText_len ((y :: r).map fun s => 58 :: bl s) (by simp)
      have h2 := sum_cols (y :: r)
      rw [h1, h2, if_pos (by simp), List.length_map, List.length_cons]
      omega

theorem own_cell {w : World} {B n i : Nat} {t : TypeId} {a : Option Addr} {c : Nat} {xs : List Value} (h : w.ownsRow B t 1 (.slice a n c) n xs) (hi : i < xs.length) : ∃ g, B ≤ g ∧ a = some ⟨g, 0, none⟩ ∧ w.cell? ⟨g, i, none⟩ = some xs[i] := by
  obtain ⟨h1, ⟨e, rfl⟩ | ⟨g, cap, cur, e, hg, hb, hn, hc, hs, ht⟩⟩ := h
  · rw [Nat.zero_mul] at h1
    omega
  · cases e
    refine ⟨g, hg, rfl, ?_⟩
    have h2 : cur.toList.take n = xs := by simpa using ht
    subst h2
    have hi' : i < n := by simp at hi; omega
    have hic : i < cur.size := by omega
    simp [World.cell?, hb, hic]

set_option maxHeartbeats 4000000 in
theorem law4_walk (nm : ByteArray) (a : Option Addr) (b off cap : Nat) (ss : List ByteArray) (w : World) (h : IsStrs w a b off ss) (hnil : a = none → ss = [] ∧ cap = 0) (hb : ss ≠ [] → b < w.heap.size) (hn : nm.size ≤ maxLen) (hlen : ss.length ≤ maxLen) :
    Calls Try.prog 5 #[.string nm, .slice a ss.length cap] w (LawPost w) := by
  go_enter Try.func5, Try.ntmps5
  go_wp2_with fail
  refine (zzBytes18_calls nm a b off cap ss w h hn hlen).mono ?_
  rintro e w' ⟨r, rfl, hr, hww⟩
  have hww := hww.symm
  subst hww
  cases r with
  | false =>
    go_wp2
    go_ret
    exact ⟨rfl, Below.refl _ _⟩
  | true =>
    have hbd := hr rfl
    clear hr
    by_cases h65 : ss.length ≤ 65536
    · go_wp2_with fail
      refine (namesBytes_calls nm a b off cap ss w h hlen).mono ?_
      rintro e w' ⟨⟨m1, rfl⟩, hww⟩
      have hww := hww.symm
      subst hww
      go_wp2_with fail
      · go_ret
        exact ⟨rfl, Below.refl _ _⟩
      refine (buildOp_any nm a b off cap ss w h hnil (by omega) hb).mono ?_
      rintro e w1 ⟨Bo, rfl, hb1, hop⟩
      have hs1 := hb1.size
      go_wp2_with fail
      refine (zzparams_calls nm ss Bo w1 hop (by omega) (by omega) (by omega)).mono ?_
      rintro e w2 ⟨rfl, hb2⟩
      have hbw2 : Below w.heap.size w w2 := hb1.trans (hb2.mono hs1)
      have htl := paramsText_len nm ss (by omega) (by omega) (by omega)
      by_cases hne : ss = []
      · subst hne
        obtain ⟨got, hgot⟩ : ∃ got : ByteArray, got = ⟨(paramsText nm []).toArray⟩ := ⟨_, rfl⟩
        rw [← hgot]
        have hbl : bl got = bl nm ++ [32, 104, 97, 115, 32, 110, 111, 110, 101] := by
          rw [hgot]
          show (paramsText nm []).toArray.toList = _
          simp [paramsText]
        have hgs : got.size = nm.size + 9 := by
          have e1 : got.size = (bl got).length := by simp [bl]
          have e2 : nm.size = (bl nm).length := by simp [bl]
          rw [e1, hbl, e2]
          simp
        have HB : Hid (bl got = bl nm ++ [32, 104, 97, 115, 32, 110, 111, 110, 101]) := hbl
        clear hgot hbl htl
        go_wp2_with fail
        refine (hasAtI got nm _ 0 w2 rfl (hasAt_of (pre := []) (x := bl nm) (post := [32, 104, 97, 115, 32, 110, 111, 110, 101]) (by rw [HB.out]; simp) rfl rfl) (by omega) (by omega) (by omega)).mono ?_
        rintro e w' ⟨rfl, hww⟩
        have hww := hww.symm
        subst hww
        go_wp2_with fail
        refine (hasAtI got ⟨#[32, 104, 97, 115, 32, 110, 111, 110, 101]⟩ _ nm.size w2 rfl (hasAt_of (pre := bl nm) (x := [32, 104, 97, 115, 32, 110, 111, 110, 101]) (post := []) (by rw [HB.out]; simp) rfl (by simp [bl])) (by omega) (by omega) (by decide)).mono ?_
        rintro e w' ⟨rfl, hww⟩
        have hww := hww.symm
        subst hww
        go_wp2
        go_ret
        exact ⟨rfl, hbw2⟩
      · obtain ⟨got, hgot⟩ : ∃ got : ByteArray, got = ⟨(paramsText nm ss).toArray⟩ := ⟨_, rfl⟩
        rw [← hgot]
        have hbl : bl got = listText (ss.map fun s => 58 :: bl s) := by
          rw [hgot]
          show (paramsText nm ss).toArray.toList = _
          rw [paramsText, if_neg hne]
        have hgs : got.size ≤ 16777216 := by
          rw [hgot]
          show (paramsText nm ss).toArray.size ≤ _
          simpa using htl
        have hl0 : 0 < ss.length := by cases h5 : ss with | nil => exact absurd h5 hne | cons => simp
        have hz : ((ss.length : Int) == 0) = false := beq_eq_false_iff_ne.2 (by omega)
        have hgl : got.size = strSum ss + ss.length + if 2 ≤ ss.length then 5 + 2 * (ss.length - 2) else 0 := by
          have e1 : got.size = (bl got).length := by simp [bl]
          rw [e1, hbl, listText_len ss hne]
        have HB : Hid (bl got = listText (ss.map fun s => 58 :: bl s)) := hbl
        have HGL : Hid (got.size = strSum ss + ss.length + if 2 ≤ ss.length then 5 + 2 * (ss.length - 2) else 0) := hgl
        clear hgot hbl htl hgl
        go_wp2
        go_loopw [7, 8] (fun t7 t8 wr => ∃ (k m : Nat), t7 = .int .i64 m ∧ t8 = .int .i64 k ∧ k ≤ ss.length ∧ m = strSum (ss.take k) + k ∧ m ≤ 16777216 ∧ wr = w2) (fun _ t8 _ => ss.length - (intOf t8).toNat)
        case atStart => exact ⟨0, 0, rfl, rfl, Nat.zero_le _, by simp [strSum], by omega, rfl⟩
        case round =>
          obtain ⟨k, m, rfl, rfl, hk, hm, hm2, hwr⟩ := hrel
          have hwr := hwr.symm
          subst hwr
          have HM : Hid (m = strSum (ss.take k) + k) := hm
          clear hm
          by_cases hlt : k < ss.length
          · have e := h.1 hne
            subst e
            have c1 := (hbw2.cell (p := ⟨b, off + k, none⟩) (hb hne)).trans (h.2 k hlt)
            have hsk := le_strSum ss _ (List.getElem_mem hlt)
            have HS : Hid (strSum (ss.take (k + 1)) = strSum (ss.take k) + ss[k].size) := strSum_take_succ ss k hlt
            have HLE : strSum (ss.take (k + 1)) ≤ strSum ss := by
              have : ss = ss.take (k + 1) ++ ss.drop (k + 1) := (List.take_append_drop _ _).symm
              conv => rhs; rw [this, strSum_append]
              omega
            have hm3 : m + (ss[k].size + 1) ≤ 16777216 := by
              have h1 := HM.out
              have h2 := HS.out
              omega
            clear HLE
            go_wp2
            go_roundw
            case rel => exact ⟨k + 1, m + (ss[k].size + 1), by go_num, by go_num, by omega, by rw [HM.out, HS.out]; omega, hm3, trivial⟩
            case measure => simp [intOf]; omega
          · have hA : m = strSum ss + ss.length := by
              have h1 := HM.out
              rw [strSum_take_all ss k hlt] at h1
              omega
            have HGL2 := HGL.out
            clear HGL
            clear HM hwr
            by_cases h2 : 2 ≤ ss.length
            · rw [if_pos h2] at HGL2
              have hq : got.size = m + (5 + 2 * (ss.length - 2)) := by omega
              have hqb : ((got.size : Int) == (m : Int) + (5 + 2 * ((ss.length : Int) - 2))) = true := beq_iff_eq.2 (by omega)
              clear hA HGL2 hq
              go_wp2_with fail
              refine (allIdents_calls a b off cap ss w2 (h.below hb hbw2) (by omega) (by omega)).mono ?_
              rintro e w' ⟨r, rfl, hr, hww⟩
              have hww := hww.symm
              subst hww
              cases r with
              | false =>
                go_wp2
                go_ret
                exact ⟨rfl, hbw2⟩
              | true =>
                have hid := hr rfl
                clear hr
                go_wp2_with fail
                refine (readParams_calls got ss w2 hne HB.out hid hgs (by omega)).mono ?_
                rintro e w3 ⟨v, rfl, hown, hb3⟩
                have hbw3 : Below w.heap.size w w3 := hbw2.trans (hb3.mono hbw2.size)
                obtain ⟨va, vc, hv⟩ : ∃ va vc, v = .slice va ss.length vc := by
                  obtain ⟨_, ⟨rfl, h0⟩ | ⟨g, c, cur, rfl, _⟩⟩ := hown
                  · exact ⟨none, 0, by rw [h0]⟩
                  · exact ⟨_, c, rfl⟩
                subst hv
                clear hid
                go_wp2
                go_loopw [11] (fun t wr => ∃ (k n : Nat), t = .int .i64 k ∧ k ≤ ss.length ∧ wr = w3.drewN n) (fun t _ => ss.length - (intOf t).toNat)
                case atStart => exact ⟨0, 0, rfl, Nat.zero_le _, rfl⟩
                case round =>
                  obtain ⟨k, n, rfl, hk, rfl⟩ := hrel
                  by_cases hlt : k < ss.length
                  · have e := h.1 hne
                    subst e
                    have c1 := (hbw3.cell (p := ⟨b, off + k, none⟩) (hb hne)).trans (h.2 k hlt)
                    obtain ⟨g, hg, rfl, c2⟩ := own_cell (i := k) hown (by simpa using hlt)
                    have e2 : (ss.map Value.string)[k]'(by simpa using hlt) = .string ss[k] := by simp
                    rw [e2] at c2
                    have hkI : (k : Int) < ss.length := by omega
                    clear hown
                    go_wp2
                    go_quiet (fail)
                    go_wp2
                    go_roundw
                    case rel => exact ⟨k + 1, n + nq, by go_num, by omega, by simp⟩
                    case measure => simp [intOf]; omega
                  · go_wp2
                    go_ret
                    exact ⟨rfl, belowDrewN hbw3 n⟩
            · rw [if_neg h2] at HGL2
              have hqb : ((got.size : Int) == (m : Int)) = true := beq_iff_eq.2 (by omega)
              clear hA HGL2
              go_wp2_with fail
              refine (allIdents_calls a b off cap ss w2 (h.below hb hbw2) (by omega) (by omega)).mono ?_
              rintro e w' ⟨r, rfl, hr, hww⟩
              have hww := hww.symm
              subst hww
              cases r with
              | false =>
                go_wp2
                go_ret
                exact ⟨rfl, hbw2⟩
              | true =>
                have hid := hr rfl
                clear hr
                go_wp2_with fail
                refine (readParams_calls got ss w2 hne HB.out hid hgs (by omega)).mono ?_
                rintro e w3 ⟨v, rfl, hown, hb3⟩
                have hbw3 : Below w.heap.size w w3 := hbw2.trans (hb3.mono hbw2.size)
                obtain ⟨va, vc, hv⟩ : ∃ va vc, v = .slice va ss.length vc := by
                  obtain ⟨_, ⟨rfl, h0⟩ | ⟨g, c, cur, rfl, _⟩⟩ := hown
                  · exact ⟨none, 0, by rw [h0]⟩
                  · exact ⟨_, c, rfl⟩
                subst hv
                clear hid
                go_wp2
                go_loopw [11] (fun t wr => ∃ (k n : Nat), t = .int .i64 k ∧ k ≤ ss.length ∧ wr = w3.drewN n) (fun t _ => ss.length - (intOf t).toNat)
                case atStart => exact ⟨0, 0, rfl, Nat.zero_le _, rfl⟩
                case round =>
                  obtain ⟨k, n, rfl, hk, rfl⟩ := hrel
                  by_cases hlt : k < ss.length
                  · have e := h.1 hne
                    subst e
                    have c1 := (hbw3.cell (p := ⟨b, off + k, none⟩) (hb hne)).trans (h.2 k hlt)
                    obtain ⟨g, hg, rfl, c2⟩ := own_cell (i := k) hown (by simpa using hlt)
                    have e2 : (ss.map Value.string)[k]'(by simpa using hlt) = .string ss[k] := by simp
                    rw [e2] at c2
                    have hkI : (k : Int) < ss.length := by omega
                    clear hown
                    go_wp2
                    go_quiet (fail)
                    go_wp2
                    go_roundw
                    case rel => exact ⟨k + 1, n + nq, by go_num, by omega, by simp⟩
                    case measure => simp [intOf]; omega
                  · go_wp2
                    go_ret
                    exact ⟨rfl, belowDrewN hbw3 n⟩
    · have : ¬ (ss.length : Int) ≤ 65536 := by omega
      go_wp2
      go_ret
      exact ⟨rfl, Below.refl _ _⟩
end Go.Proofs.Qxb6604467a
