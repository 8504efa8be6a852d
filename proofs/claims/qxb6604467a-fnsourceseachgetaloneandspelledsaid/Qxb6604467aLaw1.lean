import Derived.Test.Qxb6604467aSources
import Derived.Test.Qxb6604467aTk
namespace Go.Proofs.Qxb6604467a
open Go.RowKit
set_option linter.unusedVariables false

/-! ### plain bounds -/
theorem pick_len {ws : List (Int × ByteArray)} {p : Nat} : ∀ (is slot r : List Nat), pick ws p is slot = some r → r.length ≤ slot.length + is.length
  | [], slot, r, e => by
    simp only [pick, Option.some.injEq] at e
    subst e
    simp
  | i :: is, slot, r, e => by
    unfold pick at e
    split at e
    · have := pick_len is slot r e
      simp
      omega
    · split at e
      · cases e
      · have := pick_len is _ r e
        simp at this ⊢
        omega

theorem pickLens_len {ws : List (Int × ByteArray)} {s : ByteArray} {p : Nat} : ∀ (ns slot r : List Nat), pickLens ws s p ns slot = some r → r.length ≤ slot.length + ns.length * ws.length
  | [], slot, r, e => by
    simp only [pickLens, Option.some.injEq] at e
    subst e
    simp
  | n :: ns, slot, r, e => by
    unfold pickLens at e
    have hm : (n :: ns).length * ws.length = ns.length * ws.length + ws.length := by rw [List.length_cons, Nat.add_mul, Nat.one_mul]
    split at e
    · have := pickLens_len ns slot r e
      omega
    · obtain ⟨r1, e1, e2⟩ := Option.bind_eq_some_iff.1 e
      have h1 := pick_len _ _ _ e1
      have h2 := pickLens_len ns r1 r e2
      have h3 := idxOf_length ws (s.extract p (p + n))
      omega

theorem srcGo_len {ws : List (Int × ByteArray)} {s : ByteArray} (B : Nat) (hB : (lensOf ws).length * ws.length ≤ B) : ∀ (fuel p : Nat) (acc r : List (List Nat)), (∀ x ∈ acc, x.length ≤ B) → srcGo ws s fuel p acc = some r → ∀ x ∈ r, x.length ≤ B
  | 0, p, acc, r, h, e => by
    simp only [srcGo, Option.some.injEq] at e
    subst e
    exact h
  | fuel + 1, p, acc, r, h, e => by
    unfold srcGo at e
    split at e
    · obtain ⟨slot, e1, e2⟩ := Option.bind_eq_some_iff.1 e
      have h1 := pickLens_len _ _ _ e1
      have hs : ∀ x ∈ acc ++ [slot], x.length ≤ B := by
        intro x hx
        rcases List.mem_append.1 hx with hx | hx
        · exact h x hx
        · simp at hx
          subst hx
          simp at h1
          omega
      split at e2
      · simp only [Option.some.injEq] at e2
        subst e2
        exact hs
      · exact srcGo_len B hB fuel _ _ r hs e2
    · simp only [Option.some.injEq] at e
      subst e
      exact h

theorem le_argSum : ∀ (ops : List (Int × ByteArray)) (x : Int × ByteArray), x ∈ ops → x.2.size ≤ argSum ops
  | [], x, h => by cases h
  | y :: ys, x, h => by
    have e : argSum (y :: ys) = y.2.size + argSum ys := rfl
    rcases List.mem_cons.1 h with rfl | h
    · omega
    · have := le_argSum ys x h
      omega

theorem argSum_W (ops : List (Int × ByteArray)) (i : Nat) : (W ops i).2.size ≤ argSum ops := by
  by_cases h : i < ops.length
  · rw [← W_eq h]
    exact le_argSum ops _ (List.getElem_mem h)
  · have : W ops i = (0, ⟨#[]⟩) := by simp [W, List.getD, List.getElem?_eq_none (show ops.length ≤ i by omega)]
    rw [this]
    exact Nat.zero_le _

theorem toKV_any (a : Option Addr) (b off cap : Nat) (ops : List (Int × ByteArray)) (w : World) (h : IsOps w a b off ops) (hnil : a = none → ops = [] ∧ cap = 0) (hlen : ops.length ≤ 1048576) (hb : ops ≠ [] → b < w.heap.size) :
    Calls Try.prog 9 #[.slice a ops.length cap] w (ToKVPost ops w) := by
  cases a with
  | none =>
    obtain ⟨rfl, rfl⟩ := hnil rfl
    exact toKV_nil w
  | some x =>
    exact toKV_calls x b off cap ops w h hlen hb


theorem W_single {F : Int} {G : ByteArray} {B : Nat} (h : G.size ≤ B) : ∀ i, (W [(F, G)] i).2.size ≤ B
  | 0 => h
  | _ + 1 => Nat.zero_le _

theorem cellOf_at {ws gs : List (Int × ByteArray)} {V : Nat → Value} {n k : Nat} (h : k < n) : cellOf ws gs V n (k * 3) = .bool (told ws (W gs k).2).isSome ∧ cellOf ws gs V n (k * 3 + 1) = V k ∧ cellOf ws gs V n (k * 3 + 2) = .bool ((told ws (W gs k).2).elim false (initOf ws)) := by
  have d0 : k * 3 / 3 = k := by omega
  have m0 : k * 3 % 3 = 0 := by omega
  have d1 : (k * 3 + 1) / 3 = k := by omega
  have m1 : (k * 3 + 1) % 3 = 1 := by omega
  have d2 : (k * 3 + 2) / 3 = k := by omega
  have m2 : (k * 3 + 2) % 3 = 2 := by omega
  unfold cellOf
  refine ⟨?_, ?_, ?_⟩
  · rw [d0, m0, if_pos h]; simp
  · rw [d1, m1, if_pos h]; simp
  · rw [d2, m2, if_pos h]; simp

theorem told_some {ws : List (Int × ByteArray)} {s : ByteArray} {r : List (List Nat)} (h : told ws s = some r) : (∀ i, i < ws.length → 0 < (W ws i).2.size) ∧ src ws s = some r := by
  unfold told at h
  split at h
  · cases h
  · rename_i hn
    exact ⟨fun i hi => Nat.pos_of_ne_zero fun e => hn ⟨i, hi, e⟩, h⟩

def LawPost (w : World) (e : Ending) (w' : World) : Prop := e = .returned (.bool true) ∧ Below w.heap.size w w'

set_option maxRecDepth 100000 in
set_option maxHeartbeats 4000000 in
theorem law1_walk (a : Option Addr) (b off cap : Nat) (ws : List (Int × ByteArray)) (a' : Option Addr) (b' off' cap' : Nat) (gs : List (Int × ByteArray)) (w : World) (hw : IsOps w a b off ws) (hg : IsOps w a' b' off' gs)
    (hnil : a = none → ws = [] ∧ cap = 0) (hnil' : a' = none → gs = [] ∧ cap' = 0) (hb : ws ≠ [] → b < w.heap.size) (hb' : gs ≠ [] → b' < w.heap.size) (hlen : ws.length ≤ maxLen) (hlen' : gs.length ≤ maxLen) :
    Calls Try.prog 3 #[.slice a ws.length cap, .slice a' gs.length cap'] w (LawPost w) := by
  go_enter Try.func3, Try.ntmps3
  go_wp2_with fail
  refine (zzBytes7_calls a b off cap ws a' b' off' cap' gs w hw hg hlen hlen').mono ?_
  rintro e w' ⟨r, rfl, hr, hww⟩
  have hww := hww.symm
  subst hww
  cases r with
  | false =>
    go_wp2
    go_ret
    exact ⟨rfl, Below.refl _ _⟩
  | true =>
    have hbd := hr rfl
    clear hr
    by_cases h256 : ws.length ≤ 256
    · by_cases h65 : gs.length ≤ 65536
      · have d1 : decide ((256 : Int) < ws.length) = false := decide_eq_false (by omega)
        have d2 : decide ((65536 : Int) < gs.length) = false := decide_eq_false (by omega)
        have hww : ∀ i, (W ws i).2.size ≤ 1048576 := fun i => by have := argSum_W ws i; omega
        have hgg : ∀ i, (W gs i).2.size ≤ 1048576 := fun i => by have := argSum_W gs i; omega
        have hgl : gs.length ≤ 1048576 := by omega
        have hll : (lensOf ws).length ≤ 256 := by have := lensOf_length ws ws.length (Nat.le_refl _); rw [List.take_length] at this; omega
        have HWW : Hid (∀ i, (W ws i).2.size ≤ 1048576) := hww
        have HGG : Hid (∀ i, (W gs i).2.size ≤ 1048576) := hgg
        clear hww hgg
        go_wp2_with fail
        refine (opsBytes_calls a b off cap ws w hw hlen).mono ?_
        rintro e w' ⟨⟨m1, rfl⟩, hww⟩
        have hww := hww.symm
        subst hww
        go_wp2_with fail
        refine (opsBytes_calls a' b' off' cap' gs w hg hlen').mono ?_
        rintro e w' ⟨⟨m2, rfl⟩, hww⟩
        have hww := hww.symm
        subst hww
        go_wp2_with fail
        · go_ret
          exact ⟨rfl, Below.refl _ _⟩
        refine (toKV_any a b off cap ws w hw hnil (by omega) hb).mono ?_
        rintro e w1 ⟨ax, bx, cx, rfl, hb1, hw1, hx1⟩
        have hs1 := hb1.size
        go_wp2_with fail
        refine (toKV_any a' b' off' cap' gs w1 (hg.below hb' hb1) hnil' (by omega) (fun h => by have := hb' h; omega)).mono ?_
        rintro e w2 ⟨ay, bY, cy, rfl, hb2, hg2, hy2⟩
        have hs2 := hb2.size
        have hw2 := hw1.below hx1 hb2
        go_wp2_with fail
        refine (sources_calls ws gs ax bx 0 cx ay bY 0 cy w2 hw2 (fun h => by have := hx1 h; omega) hg2 hy2 h256 hgl HWW.out HGG.out).mono ?_
        rintro e w3 ⟨V, rfl, hb3, hrow, hown⟩
        have hs3 := hb3.size
        have hbw3 : Below w.heap.size w w3 := (hb1.trans (hb2.mono hs1)).trans (hb3.mono (by omega))
        have hrl := hrow.lt
        go_wp2_with fail
        go_loopw [8] (fun i wr => ∃ k : Nat, i = .int .i64 k ∧ k ≤ gs.length ∧ Below w3.heap.size w3 wr) (fun i _ => gs.length - (intOf i).toNat)
        case atStart => exact ⟨0, rfl, Nat.zero_le _, Below.refl _ _⟩
        case round =>
          obtain ⟨k, rfl, hk, hbx⟩ := hrel
          obtain ⟨wx, hwx⟩ : ∃ wx, wx = wr := ⟨_, rfl⟩
          subst hwx
          have hsx := hbx.size
          by_cases hlt : k < gs.length
          · have e := hg2.1 (ne_nil_of_lt hlt)
            subst e
            have hyb := hy2 (ne_nil_of_lt hlt)
            obtain ⟨F, G, hWk⟩ : ∃ F G, W gs k = (F, G) := ⟨_, _, rfl⟩
            obtain ⟨c0, c1⟩ := hg2.2 k hlt
            rw [W_eq, hWk, Nat.zero_add] at c0 c1
            have hb2x : Below w2.heap.size w2 wx := hb3.trans (hbx.mono hs3)
            have c0' := (hb2x.cell (p := ⟨bY, k * 2, none⟩) hyb).trans c0
            have c1' := (hb2x.cell (p := ⟨bY, k * 2 + 1, none⟩) hyb).trans c1
            have HW : Hid (W gs k = (F, G)) := hWk
            have hGs := HGG.out k
            rw [hWk] at hGs
            dsimp only at hGs
            dsimp only at c0' c1'
            clear c0 c1 hWk
            have hwx : IsOps (wx.alloc (.cells #[.int .i64 F, .string G] 33)) ax bx 0 ws := (hw2.below (fun h => by have := hx1 h; omega) (hb2x.alloc (by omega) _))
            have hone : IsOps (wx.alloc (.cells #[.int .i64 F, .string G] 33)) (some ⟨wx.heap.size, 0, none⟩) wx.heap.size 0 [(F, G)] := by
              refine ⟨fun _ => rfl, fun i hi => ?_⟩
              have : i = 0 := by simpa using hi
              subst this
              simp
            have hal : Calls Try.prog 10 #[.agg #[], .slice ax ws.length cx, .slice (some ⟨wx.heap.size, 0, none⟩) 1 1] (wx.alloc (.cells #[.int .i64 F, .string G] 33)) (SourcesPost ws [(F, G)] (wx.alloc (.cells #[.int .i64 F, .string G] 33))) :=
              sources_calls ws [(F, G)] ax bx 0 cx (some ⟨wx.heap.size, 0, none⟩) wx.heap.size 0 1 _ hwx (fun h => by have := hx1 h; simp; omega) hone (fun _ => by simp) h256 (by simp) HWW.out (W_single hGs)
            go_wp2_with fail
            refine hal.mono ?_
            rintro e w4 ⟨V', he, hb4, hrow4, hown4⟩
            subst he
            clear hal hwx hone
            simp only [World.size_alloc, List.length_singleton] at hb4 hrow4 hown4 ⊢
            have hs4 := hb4.size
            simp only [World.size_alloc] at hs4
            have hbx4 : Below wx.heap.size wx w4 := ((Below.refl _ _).alloc (Nat.le_refl _) _).trans (hb4.mono (by omega))
            have hb34 : Below w3.heap.size w3 w4 := hbx.trans (hbx4.mono hsx)
            -- the cells of both sources
            obtain ⟨x0, x1, x2⟩ := cellOf_at (ws := ws) (gs := gs) (V := V) hlt
            obtain ⟨y0, y1, y2⟩ := cellOf_at (ws := ws) (gs := [(F, G)]) (V := V') (n := 1) (k := 0) (by omega)
            rw [HW.out] at x0 x2
            have eW : (W [(F, G)] 0) = (F, G) := rfl
            rw [eW] at y0 y2
            simp only [Nat.zero_mul, Nat.zero_add] at y0 y1 y2
            have hrow34 := hrow.of_block (hb34.block _ hrl)
            have p0 := hrow34.cell (i := k * 3) (by omega)
            have p1 := hrow34.cell (i := k * 3 + 1) (by omega)
            have p2 := hrow34.cell (i := k * 3 + 2) (by omega)
            have q0 := hrow4.cell (i := 0) (by omega)
            have q1 := hrow4.cell (i := 1) (by omega)
            have q2 := hrow4.cell (i := 2) (by omega)
            rw [x0] at p0
            rw [x1] at p1
            rw [x2] at p2
            rw [y0] at q0
            rw [y1] at q1
            rw [y2] at q2
            have hov1 : OwnsSlots w4 w2.heap.size (V k) ((told ws G).getD []) := by
              have h := hown k hlt
              rw [HW.out] at h
              exact h.of_blocks fun j _ h2 => hb34.block j h2
            have hov2 : OwnsSlots w4 (wx.heap.size + 1) (V' 0) ((told ws G).getD []) := hown4 0 (by omega)
            obtain ⟨a1, cc1, hV1⟩ : ∃ a1 cc1, V k = .slice a1 ((told ws G).getD []).length cc1 := by
              obtain ⟨vs, h1, _⟩ := hov1
              exact ownsRow_shape h1
            obtain ⟨a2, cc2, hV2⟩ : ∃ a2 cc2, V' 0 = .slice a2 ((told ws G).getD []).length cc2 := by
              obtain ⟨vs, h1, _⟩ := hov2
              exact ownsRow_shape h1
            rw [hV1] at hov1 p1
            rw [hV2] at hov2 q1
            obtain ⟨bs1, A1, C1, Bk1, his1, _⟩ := hov1.isSlots
            obtain ⟨bs2, A2, C2, Bk2, his2, _⟩ := hov2.isSlots
            clear x0 x1 x2 y0 y1 y2 hV1 hV2 hrow4 hown4 hov1 hov2 hrow34 eW
            cases hT : told ws G with
            | none =>
              rw [hT] at p0 p1 p2 q0 q1 q2 his1 his2
              simp only [Option.isSome_none, Option.elim_none, Option.getD_none, List.length_nil] at p0 p1 p2 q0 q1 q2 his1 his2
              have hse : ∀ n, Calls Try.prog 11 #[.slice a1 0 cc1, .slice a2 0 cc2] (w4.drewN n) fun e w' => e = .returned (.bool true) ∧ ∃ m, w' = (w4.drewN n).drewN m := fun n => slotsEqual_calls [] a1 a2 bs1 bs2 0 0 cc1 cc2 A1 A2 C1 C2 Bk1 Bk2 _ _ (w4.drewN n) his1 his2 (by simp) (by simp)
              have hkI : (k : Int) < gs.length := by omega
              go_wp2
              go_quiet ((go_at_call 11; exact Calls.quiet_of (hse _)))
              go_wp2
              go_roundw
              case rel => exact ⟨k + 1, by go_num, by omega, belowDrewN hb34 _⟩
              case measure => simp [intOf]; omega
            | some ss =>
              rw [hT] at p0 p1 p2 q0 q1 q2 his1 his2
              simp only [Option.isSome_some, Option.elim_some, Option.getD_some] at p0 p1 p2 q0 q1 q2 his1 his2
              obtain ⟨hpos, hsrc⟩ := told_some hT
              obtain ⟨⟨pl, hok⟩, hsl⟩ := src_ok hpos hsrc
              have hbnd : ∀ i (h : i < ss.length), ss[i].length ≤ 65536 := fun i h => srcGo_len 65536 (by have := Nat.mul_le_mul hll h256; omega) _ _ _ _ (by simp) hsrc _ (List.getElem_mem h)
              have hbw4 : Below w.heap.size w w4 := hbw3.trans (hb34.mono (by omega))
              have hwW := hw.below hb hbw4
              have hse : ∀ n, Calls Try.prog 11 #[.slice a1 ss.length cc1, .slice a2 ss.length cc2] (w4.drewN n) fun e w' => e = .returned (.bool true) ∧ ∃ m, w' = (w4.drewN n).drewN m := fun n => slotsEqual_calls ss a1 a2 bs1 bs2 0 0 cc1 cc2 A1 A2 C1 C2 Bk1 Bk2 _ _ (w4.drewN n) his1 his2 (by omega) (fun i h => by have := hbnd i h; omega)
              have hsp : ∀ n, Calls Try.prog 12 #[.string G, .slice a ws.length cap, .slice a1 ss.length cc1, .bool (initOf ws ss)] (w4.drewN n) fun e w' => e = .returned (.bool true) ∧ ∃ m, w' = (w4.drewN n).drewN m := fun n => spelled_calls ws G ss pl a b off cap a1 bs1 0 cc1 A1 C1 Bk1 _ (w4.drewN n) hwW his1 hok hGs (by omega) (by omega) (fun i h => by have := hbnd i h; omega) HWW.out
              have hkI : (k : Int) < gs.length := by omega
              obtain ⟨d0, d1'⟩ := hg.2 k hlt
              have e := hg.1 (ne_nil_of_lt hlt)
              subst e
              rw [W_eq, HW.out] at d1'
              have d1'' := (hbw4.cell (p := ⟨b', off' + k * 2 + 1, none⟩) (hb' (ne_nil_of_lt hlt))).trans d1'
              dsimp only at d1''
              generalize initOf ws ss = ib at *
              clear hbnd hok hsrc hpos hT d0 d1'
              go_wp2
              go_quiet ((go_at_call 11; exact Calls.quiet_of (hse _)))
              go_wp2
              go_quiet ((go_at_call 12; refine (hsp _).mono ?_; rintro e w' ⟨rfl, m, rfl⟩; exact ⟨rfl, _, by rw [World.drewN_drewN, Nat.add_assoc]⟩))
              go_wp2
              go_roundw
              case rel => exact ⟨k + 1, by go_num, by omega, belowDrewN hb34 _⟩
              case measure => simp [intOf]; omega
          · go_wp2
            go_ret
            exact ⟨rfl, hbw3.trans (hbx.mono (by omega))⟩
      · have d1 : decide ((256 : Int) < ws.length) = false := decide_eq_false (by omega)
        have d2 : decide ((65536 : Int) < gs.length) = true := decide_eq_true (by omega)
        go_wp2_with fail
        go_ret
        exact ⟨rfl, Below.refl _ _⟩
    · have d1 : decide ((256 : Int) < ws.length) = true := decide_eq_true (by omega)
      go_wp2_with fail
      go_ret
      exact ⟨rfl, Below.refl _ _⟩
end Go.Proofs.Qxb6604467a
