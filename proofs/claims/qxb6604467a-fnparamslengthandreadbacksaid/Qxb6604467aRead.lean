import Derived.Test.Qxb6604467aIdent
import Derived.Maps.AppendAt
namespace Go.Proofs.Qxb6604467a
open Go.RowKit
set_option linter.unusedVariables false

theorem own_ge {w : World} {B n size : Nat} {t : TypeId} {v : Value} {xs : List Value} (h : w.ownsRow B t size v n xs) : ∀ k, v.ownBlock = some k → B ≤ k := by
  obtain ⟨_, ⟨rfl, _⟩ | ⟨g, cap, cur, rfl, hg, _⟩⟩ := h
  · intro k hk; simp [Value.ownBlock] at hk
  · intro k hk
    simp [Value.ownBlock] at hk
    omega

theorem get_of {got : ByteArray} {pre x post : List UInt8} (hg : bl got = pre ++ x ++ post) {J q : Nat} (hJ : J = pre.length + q) (hq : q < x.length) (h : J < got.size) : got[J] = x[q] := by
  have h1 : got[J] = (bl got)[J]'(by simpa [bl] using h) := by
    show got.data[J] = got.data.toList[J]
    simp
  rw [h1]
  subst hJ
  simp only [hg, List.append_assoc]
  rw [List.getElem_append_right (by omega)]
  simp only [Nat.add_sub_cancel_left]
  rw [List.getElem_append_left hq]

theorem extract_of {got s : ByteArray} {pre post : List UInt8} (hg : bl got = pre ++ bl s ++ post) {P J : Nat} (hP : P = pre.length) (hJ : J = P + s.size) : got.extract P J = s := by
  apply bytes_ext
  rw [Lib.toList_data, Lib.toList_data, Lib.extract_data]
  have e : got.data.toList = bl got := rfl
  have e2 : s.data.toList = bl s := rfl
  have e3 : (bl s).length = s.size := by simp [bl]
  rw [e, e2, hg, hP, List.append_assoc, List.drop_left, hJ, hP, show pre.length + s.size - pre.length = (bl s).length by omega, List.take_left]

theorem hasAt_not {got a : ByteArray} {k : Nat} {pre post : List UInt8} {y z : UInt8} {r : List UInt8} (hg : bl got = pre ++ y :: post) (ha : bl a = z :: r) (hk : k = pre.length) (hne : z ≠ y) : hasAt got k a = false := by
  subst hk
  simp only [hasAt, decide_eq_false_iff_not]
  rintro ⟨_, h⟩
  have h : bl a <+: (bl got).drop pre.length := h
  rw [hg, ha, List.drop_left, List.cons_prefix_cons] at h
  exact hne h.1

theorem hasAtF (s a : ByteArray) (p : Int) (k : Nat) (w : World) (hp : p = (k : Int)) (h : hasAt s k a = false) (hs : s.size ≤ 4611686018427387904) (hk : k ≤ 4611686018427387904) (ha : a.size ≤ 4611686018427387904) :
    Calls Try.prog 17 #[.string s, .int .i64 p, .string a] w fun e w' => e = .returned (.bool false) ∧ w' = w := by
  subst hp
  have := hasAt_calls s a k w hs hk ha
  rwa [h] at this

theorem ident32 (w : World) : Calls Try.prog 32 #[.int .u8 32] w fun e w' => e = .returned (.bool false) ∧ w' = w := by
  have h := identByte_calls 32 w
  have e : identB 32 = false := by decide
  rw [e] at h
  exact h
theorem ident44 (w : World) : Calls Try.prog 32 #[.int .u8 44] w fun e w' => e = .returned (.bool false) ∧ w' = w := by
  have h := identByte_calls 44 w
  have e : identB 44 = false := by decide
  rw [e] at h
  exact h

def ReadPost (ss : List ByteArray) (w : World) (e : Ending) (w' : World) : Prop :=
  ∃ v, e = .returned (.tuple #[v, .bool true]) ∧ w'.ownsRow w.heap.size 9 1 v ss.length (ss.map .string) ∧ Below w.heap.size w w'

set_option maxHeartbeats 4000000 in
theorem readParams_calls (got : ByteArray) (ss : List ByteArray) (w : World) (hne : ss ≠ []) (hg : bl got = listText (ss.map fun s => 58 :: bl s)) (hid : AllId ss) (hgs : got.size ≤ 16777216) (hlen : ss.length ≤ 1048576) :
    Calls Try.prog 20 #[.string got] w (ReadPost ss w) := by
  obtain ⟨i9, hi9, hz9, hs9, hb9⟩ := info_parts Try.info9
  have hl0 : 0 < ss.length := List.length_pos_iff.2 hne
  have egs : got.size = (bl got).length := by simp [bl]
  have HGS : Hid (got.size = (bl got).length) := egs
  have HG : Hid (bl got = listText (ss.map fun s => 58 :: bl s)) := hg
  clear egs hg hne
  go_enter Try.func20, Try.ntmps20
  go_wp2
  go_loopw [4, 5] (fun t4 t5 wr => ∃ (k P : Nat) (dn : List UInt8) (s : ByteArray), ∃ hk : k < ss.length, s = ss[k] ∧ t5 = .int .i64 P ∧ P = dn.length ∧ bl got = dn ++ [58] ++ (bl s ++ restText (ss.map fun s => 58 :: bl s) (k + 1)) ∧ wr.ownsRow w.heap.size 9 1 t4 k ((ss.take k).map .string) ∧ Below w.heap.size w wr) (fun _ t5 _ => got.size - (intOf t5).toNat)
  case atStart =>
    refine ⟨0, 0, [], ss[0], hl0, rfl, rfl, rfl, ?_, World.ownsRow_nil _ _ _ _, Below.refl _ _⟩
    have h := rest_first (ss.map fun s => 58 :: bl s) (by simpa using hl0)
    rw [HG.out]
    have e : listText (ss.map fun s => 58 :: bl s) = restText (ss.map fun s => 58 :: bl s) 0 := rfl
    rw [e, h]
    simp
  case round =>
    obtain ⟨k, P, dn, s, hk, hs, rfl, hP, hdn, hown, hbel⟩ := hrel
    obtain ⟨w0, hw0⟩ : ∃ w0, w0 = wr := ⟨_, rfl⟩
    subst hw0
    obtain ⟨hs0, hsid⟩ := hid k hk
    rw [← hs] at hs0
    have hsid : ∀ j (hj : j < s.size), identB s[j] = true := by subst hs; exact hsid
    have esz : (bl s).length = s.size := by simp [bl]
    have hE : P + 1 + s.size ≤ got.size := by
      rw [HGS.out, hdn, hP]
      simp [esz]
      omega
    have hPlt : P < got.size := by omega
    have h58 : got[P]'hPlt = 58 := get_of (pre := dn) (x := [58]) (q := 0) hdn (by omega) (by simp) (by omega)
    have hPI : (P : Int) < got.size := by omega
    have HIN : Hid (∀ J (h : J < got.size), P + 1 ≤ J → J < P + 1 + s.size → identB got[J] = true) := by
      intro J h h1 h2
      have e := get_of (got := got) (pre := dn ++ [58]) (x := bl s) (post := restText (ss.map fun s => 58 :: bl s) (k + 1)) (by rw [hdn]; simp) (J := J) (q := J - (P + 1)) (by simp; omega) (by omega) h
      rw [e]
      have e2 := hsid (J - (P + 1)) (by omega)
      exact e2
    have HS : Hid (s = ss[k]) := hs
    have HP : Hid (P = dn.length) := hP
    have HD : Hid (bl got = dn ++ [58] ++ (bl s ++ restText (ss.map fun s => 58 :: bl s) (k + 1))) := hdn
    have HSZ : Hid ((bl s).length = s.size) := esz
    clear hs hP hdn hsid esz
    go_wp2
    go_loopw [6] (fun t6 wr => ∃ J : Nat, t6 = .int .i64 J ∧ P + 1 ≤ J ∧ J ≤ P + 1 + s.size ∧ wr = w0) (fun t6 _ => got.size - (intOf t6).toNat)
    case atStart => exact ⟨P + 1, by go_num, by omega, by omega, rfl⟩
    case round =>
      obtain ⟨J, rfl, hJ1, hJ2, hwr⟩ := hrel
      have hwr := hwr.symm
      subst hwr
      by_cases hjl : J < P + 1 + s.size
      · have hJI : (J : Int) < got.size := by omega
        have hb1 := HIN.out J (by omega) hJ1 hjl
        go_wp2_with fail
        refine (identByte_calls (got[J]'(by omega)) w0).mono ?_
        rintro e w' ⟨rfl, hww⟩
        have hww := hww.symm
        subst hww
        rw [hb1]
        go_wp2
        go_roundw
        case rel => exact ⟨J + 1, by go_num, by omega, by omega, trivial⟩
        case measure => simp [intOf]; omega
      · have hJe : J = P + 1 + s.size := by omega
        have hx : got.extract (P + 1) J = s := extract_of (pre := dn ++ [58]) (post := restText (ss.map fun s => 58 :: bl s) (k + 1)) (by rw [HD.out]; simp) (by rw [HP.out]; simp) (by omega)
        have HD2 : Hid (bl got = dn ++ [58] ++ bl s ++ restText (ss.map fun s => 58 :: bl s) (k + 1)) := by rw [Hid, HD.out]; simp
        have HJL : Hid (J = (dn ++ [58] ++ bl s).length) := by rw [Hid, List.length_append, HSZ.out, hJe, HP.out]; simp
        have HTK : Hid ((ss.take k).map Value.string ++ [.string s] = (ss.take (k + 1)).map .string) := by
          rw [Hid, List.take_succ_eq_append_getElem hk, List.map_append, ← HS.out]
          rfl
        have HBU : Hid (∀ w1, (w0.alloc (.cells #[.string s] 9)).grownBy w1 (Value.ownBlock u4) → Below w.heap.size w w1) := fun w1 hgrow =>
          (hbel.alloc hbel.size _).grown hgrow (by have := hbel.size; simp; omega) (own_ge hown)
        by_cases hA : k + 1 = ss.length
        · have hJg : J = got.size := by
            have := HD2.out
            rw [hA] at this
            have e := rest_end (ss.map fun s => 58 :: bl s) (by simpa using hl0)
            rw [List.length_map] at e
            rw [e, List.append_nil] at this
            rw [HGS.out, this, HJL.out]
          have hJn : ¬ (J : Int) < got.size := by omega
          have hJb : ((J : Int) == (got.size : Int)) = true := beq_iff_eq.2 (by omega)
          have HA : Hid (k + 1 = ss.length) := hA
          clear hJg hJe hA
          go_wp2_with (at_builtin; refine wpList_append_own_at _ rfl _ _ 41 rfl w.heap.size 9 i9 (.string ⟨#[]⟩) 1 16 Try.underlying41 hi9 hz9 hs9 hb9 rfl (by decide) _ _ _ rfl ((hown : w0.ownsRow _ _ _ _ _ _).alloc _) ⟨w0.heap.size, 0, none⟩ 1 1 [.string s] rfl rfl (cell_one_new _ _ _) (by simp [Value.oneCell']) (by unfold maxLen; omega) (by omega) (by have := hbel.size; simp; omega) ?_; intro v' w1 hown' hgrow hnil hloc)
          go_ret2
          refine ⟨v', rfl, ?_, HBU.out _ hgrow⟩
          rw [HTK.out, HA.out, List.take_length] at hown'
          exact hown'
        · have hkc : k + 1 < (ss.map fun s => 58 :: bl s).length := by simp; omega
          have hk1 : k + 1 < ss.length := by omega
          have hck : (ss.map fun s => 58 :: bl s)[k + 1] = 58 :: bl ss[k + 1] := by simp
          have hst := rest_step (ss.map fun s => 58 :: bl s) (k + 1) (by omega) hkc
          rw [List.length_map, hck] at hst
          by_cases hB : k + 1 + 1 = ss.length
          · rw [if_pos hB] at hst
            have HB : Hid (bl got = dn ++ [58] ++ bl s ++ [32, 97, 110, 100, 32] ++ ([58] ++ (bl ss[k + 1] ++ restText (ss.map fun s => 58 :: bl s) (k + 1 + 1)))) := by
              rw [Hid, HD2.out, hst]
              simp
            clear hst hck hB hJe
            have hJg : J + 5 < got.size := by
              rw [HGS.out, HB.out, HJL.out]
              simp
              omega
            have hJI : (J : Int) < got.size := by omega
            have hJlt : J < got.size := by omega
            have hJb : ((J : Int) == (got.size : Int)) = false := beq_eq_false_iff_ne.2 (by omega)
            have hgJ : got[J]'hJlt = 32 := get_of (pre := dn ++ [58] ++ bl s) (x := [32, 97, 110, 100, 32]) (q := 0) HB.out (by have := HJL.out; omega) (by simp) hJlt
            go_wp2_with fail
            refine (ident32 w0).mono ?_
            rintro e w' ⟨rfl, hww⟩
            have hww := hww.symm
            subst hww
            go_wp2_with (at_builtin; refine wpList_append_own_at _ rfl _ _ 41 rfl w.heap.size 9 i9 (.string ⟨#[]⟩) 1 16 Try.underlying41 hi9 hz9 hs9 hb9 rfl (by decide) _ _ _ rfl ((hown : w0.ownsRow _ _ _ _ _ _).alloc _) ⟨w0.heap.size, 0, none⟩ 1 1 [.string s] rfl rfl (cell_one_new _ _ _) (by simp [Value.oneCell']) (by unfold maxLen; omega) (by omega) (by have := hbel.size; simp; omega) ?_; intro v' w1 hown' hgrow hnil hloc)
            refine (hasAtF got ⟨#[44, 32]⟩ _ J w1 rfl (hasAt_not (pre := dn ++ [58] ++ bl s) (y := 32) (post := [97, 110, 100, 32] ++ ([58] ++ (bl ss[k + 1] ++ restText (ss.map fun s => 58 :: bl s) (k + 1 + 1)))) (z := 44) (r := [32]) (by rw [HB.out]; simp) rfl HJL.out (by decide)) (by omega) (by omega) (by decide)).mono ?_
            rintro e w' ⟨rfl, hww⟩
            have hww := hww.symm
            subst hww
            go_wp2_with fail
            refine (hasAtI got ⟨#[32, 97, 110, 100, 32]⟩ _ J w1 rfl (hasAt_of HB.out rfl HJL.out) (by omega) (by omega) (by decide)).mono ?_
            rintro e w' ⟨rfl, hww⟩
            have hww := hww.symm
            subst hww
            go_wp2
            go_roundw
            case rel =>
              refine ⟨k + 1, J + 5, dn ++ [58] ++ bl s ++ [32, 97, 110, 100, 32], ss[k + 1], by omega, rfl, by go_num, ?_, ?_, HTK.out ▸ hown', HBU.out _ hgrow⟩
              · rw [List.length_append, ← HJL.out]
                simp
              · rw [HB.out]
                simp
            case measure => simp [intOf]; omega
          · rw [if_neg hB] at hst
            have HB : Hid (bl got = dn ++ [58] ++ bl s ++ [44, 32] ++ ([58] ++ (bl ss[k + 1] ++ restText (ss.map fun s => 58 :: bl s) (k + 1 + 1)))) := by
              rw [Hid, HD2.out, hst]
              simp
            clear hst hck hB hJe
            have hJg : J + 2 < got.size := by
              rw [HGS.out, HB.out, HJL.out]
              simp
              omega
            have hJI : (J : Int) < got.size := by omega
            have hJlt : J < got.size := by omega
            have hJb : ((J : Int) == (got.size : Int)) = false := beq_eq_false_iff_ne.2 (by omega)
            have hgJ : got[J]'hJlt = 44 := get_of (pre := dn ++ [58] ++ bl s) (x := [44, 32]) (q := 0) HB.out (by have := HJL.out; omega) (by simp) hJlt
            go_wp2_with fail
            refine (ident44 w0).mono ?_
            rintro e w' ⟨rfl, hww⟩
            have hww := hww.symm
            subst hww
            go_wp2_with (at_builtin; refine wpList_append_own_at _ rfl _ _ 41 rfl w.heap.size 9 i9 (.string ⟨#[]⟩) 1 16 Try.underlying41 hi9 hz9 hs9 hb9 rfl (by decide) _ _ _ rfl ((hown : w0.ownsRow _ _ _ _ _ _).alloc _) ⟨w0.heap.size, 0, none⟩ 1 1 [.string s] rfl rfl (cell_one_new _ _ _) (by simp [Value.oneCell']) (by unfold maxLen; omega) (by omega) (by have := hbel.size; simp; omega) ?_; intro v' w1 hown' hgrow hnil hloc)
            refine (hasAtI got ⟨#[44, 32]⟩ _ J w1 rfl (hasAt_of HB.out rfl HJL.out) (by omega) (by omega) (by decide)).mono ?_
            rintro e w' ⟨rfl, hww⟩
            have hww := hww.symm
            subst hww
            go_wp2
            go_roundw
            case rel =>
              refine ⟨k + 1, J + 2, dn ++ [58] ++ bl s ++ [44, 32], ss[k + 1], by omega, rfl, by go_num, ?_, ?_, HTK.out ▸ hown', HBU.out _ hgrow⟩
              · rw [List.length_append, ← HJL.out]
                simp
              · rw [HB.out]
                simp
            case measure => simp [intOf]; omega
end Go.Proofs.Qxb6604467a
