import Derived.Test.Qxb6604512aCpf
namespace Go.Proofs.Qxb6604512a
open Go.RowKit
set_option linter.unusedVariables false

set_option maxRecDepth 100000 in
set_option maxHeartbeats 4000000 in
theorem nameCompare_calls (ok : Nat → Prop) (w : World) (xs ys : List (Nat × List UInt8)) (vx vy : Value) (hx : RC ok w vx xs) (hy : RC ok w vy ys) (hok : ∀ b, ok b → b < w.heap.size) (hlx : xs.length ≤ 1048576) (hly : ys.length ≤ 1048576) :
    Calls Try.prog 54 #[vx, vy] w (RetN (cmpN xs ys) w) := by
  obtain ⟨ax, cx, rfl, hnx, hcx⟩ := hx
  obtain ⟨ay, cy, rfl, hny, hcy⟩ := hy
  by_cases hle : (ys.length : Int) < xs.length
  · go_enter Try.func54, Try.ntmps54
    go_wp2
    go_loopw [12] (fun t wr => ∃ (k : Nat), t = .int .i64 k ∧ k ≤ ys.length ∧ cmpN (xs.drop k) (ys.drop k) = cmpN xs ys ∧ Below w.heap.size w wr) (fun t _ => ys.length - (intOf t).toNat)
    case atStart => exact ⟨0, rfl, Nat.zero_le _, rfl, Below.refl _ _⟩
    case round =>
      obtain ⟨k, rfl, hk, hrest, hbel⟩ := hrel
      obtain ⟨w0, hw0⟩ : ∃ w0, w0 = wr := ⟨_, rfl⟩
      subst hw0
      have HR : Hid (cmpN (xs.drop k) (ys.drop k) = cmpN xs ys) := hrest
      clear hrest
      by_cases hlt : k < ys.length
      · have hltx : k < xs.length := by omega
        have hlty : k < ys.length := by omega
        obtain ⟨bx, ox, e, okx, h5⟩ := hcx (ne_nil_of_lt hltx)
        subst e
        obtain ⟨by_, oy, e, oky, h6⟩ := hcy (ne_nil_of_lt hlty)
        subst e
        obtain ⟨p1, p2, v1, p3, p4⟩ := h5 k hltx
        obtain ⟨q1, q2, v2, q3, q4⟩ := h6 k hlty
        have hbx := hok _ okx
        have hby := hok _ oky
        have HST : Hid (cmpN (xs.drop k) (ys.drop k) = if cmpC xs[k] ys[k] = 0 then cmpN (xs.drop (k + 1)) (ys.drop (k + 1)) else cmpC xs[k] ys[k]) := cmpN_step xs ys k hltx hlty
        have hIx : (k : Int) < xs.length := by omega
        have hIy : (k : Int) < ys.length := by omega
        obtain ⟨X, hX⟩ : ∃ X, X = xs[k] := ⟨_, rfl⟩
        obtain ⟨Y, hY⟩ : ∃ Y, Y = ys[k] := ⟨_, rfl⟩
        rw [← hX] at p1 p2 p4 HST
        rw [← hY] at q1 q2 q4 HST
        clear hX hY h5 h6 hcx hcy hnx hny
        obtain ⟨a1, c1, rfl⟩ : ∃ a1 c1, v1 = .slice a1 X.2.length c1 := by
          obtain ⟨a1, c1, e, _⟩ := p4
          exact ⟨a1, c1, e⟩
        obtain ⟨a2, c2, rfl⟩ : ∃ a2 c2, v2 = .slice a2 Y.2.length c2 := by
          obtain ⟨a2, c2, e, _⟩ := q4
          exact ⟨a2, c2, e⟩
        have p2' := (hbel.cell (p := ⟨bx, ox + k * 2, none⟩) hbx).trans p2
        have p3' := (hbel.cell (p := ⟨bx, ox + k * 2 + 1, none⟩) hbx).trans p3
        have q2' := (hbel.cell (p := ⟨by_, oy + k * 2, none⟩) hby).trans q2
        have q3' := (hbel.cell (p := ⟨by_, oy + k * 2 + 1, none⟩) hby).trans q3
        have hs0 := hbel.size
        have hcall := compCompare_calls ok (w0.drewN 1) X Y (.slice a1 X.2.length c1) (.slice a2 Y.2.length c2) (p4.kept (fun b hb => hbel.block b (hok b hb)) (fun _ h => h)) (q4.kept (fun b hb => hbel.block b (hok b hb)) (fun _ h => h)) (fun b hb => by have := hok b hb; show b < w0.heap.size; omega)
        clear p4 q4
        go_wp2
        go_region_held3 (fun w' => (w'.cell? ⟨bx, ox + k * 2, none⟩ = some (.int .u64 (X.1 : Int)) ∧ w'.cell? ⟨bx, ox + k * 2 + 1, none⟩ = some (.slice a1 X.2.length c1)) ∧ (w'.cell? ⟨by_, oy + k * 2, none⟩ = some (.int .u64 (Y.1 : Int)) ∧ w'.cell? ⟨by_, oy + k * 2 + 1, none⟩ = some (.slice a2 Y.2.length c2))) (first | (go_keep; done) | exact ⟨⟨(hb'.cell (p := ⟨bx, ox + k * 2, none⟩) hbx).trans p2, (hb'.cell (p := ⟨bx, ox + k * 2 + 1, none⟩) hbx).trans p3⟩, ⟨(hb'.cell (p := ⟨by_, oy + k * 2, none⟩) hby).trans q2, (hb'.cell (p := ⟨by_, oy + k * 2 + 1, none⟩) hby).trans q3⟩⟩ | fail) (first
          | (go_at_call 61; refine hcall.mono ?_; rintro e w3 ⟨rfl, hb3⟩; have hb' : Below w.heap.size w w3 := (belowDrewN hbel 1).trans (hb3.mono hs0))
          | fail)
        by_cases hz : cmpC X Y = 0
        · have HST2 := HST.out
          rw [if_pos hz, HR.out] at HST2
          have HS3 : Hid (cmpN xs ys = cmpN (xs.drop (k + 1)) (ys.drop (k + 1))) := HST2
          clear HST2
          go_wp2
          go_roundw
          case rel => exact ⟨k + 1, by go_num, by omega, HS3.out.symm, hb'⟩
          case measure => simp [intOf]; omega
        · have HST2 := HST.out
          rw [if_neg hz, HR.out] at HST2
          have hzb : (cmpC X Y != 0) = true := by simpa using hz
          have HS3 : Hid (cmpN xs ys = cmpC X Y) := HST2
          clear HST2 hz
          go_wp2
          go_ret
          refine ⟨?_, hb'⟩
          rw [HS3.out]
          rfl
      · have hkm : k = ys.length := by omega
        have hH := HR.out
        rw [hkm] at hH
        have hE : cmpN xs ys = cmpI (xs.length : Int) (ys.length : Int) := by
          rw [← hH, List.drop_length, List.drop_eq_getElem_cons (by omega), cmpI, if_neg (by omega), if_pos (by omega)]
          rfl
        have HE : Hid (cmpN xs ys = cmpI (xs.length : Int) (ys.length : Int)) := hE
        clear hH hE HR hkm
        go_wp2_with fail
        refine (cmp62_calls _ _ _).mono ?_
        rintro e w' ⟨rfl, rfl⟩
        go_wp2
        go_ret
        refine ⟨?_, hbel⟩
        rw [HE.out]
        rfl
  · go_enter Try.func54, Try.ntmps54
    go_wp2
    go_loopw [12] (fun t wr => ∃ (k : Nat), t = .int .i64 k ∧ k ≤ xs.length ∧ cmpN (xs.drop k) (ys.drop k) = cmpN xs ys ∧ Below w.heap.size w wr) (fun t _ => xs.length - (intOf t).toNat)
    case atStart => exact ⟨0, rfl, Nat.zero_le _, rfl, Below.refl _ _⟩
    case round =>
      obtain ⟨k, rfl, hk, hrest, hbel⟩ := hrel
      obtain ⟨w0, hw0⟩ : ∃ w0, w0 = wr := ⟨_, rfl⟩
      subst hw0
      have HR : Hid (cmpN (xs.drop k) (ys.drop k) = cmpN xs ys) := hrest
      clear hrest
      by_cases hlt : k < xs.length
      · have hltx : k < xs.length := by omega
        have hlty : k < ys.length := by omega
        obtain ⟨bx, ox, e, okx, h5⟩ := hcx (ne_nil_of_lt hltx)
        subst e
        obtain ⟨by_, oy, e, oky, h6⟩ := hcy (ne_nil_of_lt hlty)
        subst e
        obtain ⟨p1, p2, v1, p3, p4⟩ := h5 k hltx
        obtain ⟨q1, q2, v2, q3, q4⟩ := h6 k hlty
        have hbx := hok _ okx
        have hby := hok _ oky
        have HST : Hid (cmpN (xs.drop k) (ys.drop k) = if cmpC xs[k] ys[k] = 0 then cmpN (xs.drop (k + 1)) (ys.drop (k + 1)) else cmpC xs[k] ys[k]) := cmpN_step xs ys k hltx hlty
        have hIx : (k : Int) < xs.length := by omega
        have hIy : (k : Int) < ys.length := by omega
        obtain ⟨X, hX⟩ : ∃ X, X = xs[k] := ⟨_, rfl⟩
        obtain ⟨Y, hY⟩ : ∃ Y, Y = ys[k] := ⟨_, rfl⟩
        rw [← hX] at p1 p2 p4 HST
        rw [← hY] at q1 q2 q4 HST
        clear hX hY h5 h6 hcx hcy hnx hny
        obtain ⟨a1, c1, rfl⟩ : ∃ a1 c1, v1 = .slice a1 X.2.length c1 := by
          obtain ⟨a1, c1, e, _⟩ := p4
          exact ⟨a1, c1, e⟩
        obtain ⟨a2, c2, rfl⟩ : ∃ a2 c2, v2 = .slice a2 Y.2.length c2 := by
          obtain ⟨a2, c2, e, _⟩ := q4
          exact ⟨a2, c2, e⟩
        have p2' := (hbel.cell (p := ⟨bx, ox + k * 2, none⟩) hbx).trans p2
        have p3' := (hbel.cell (p := ⟨bx, ox + k * 2 + 1, none⟩) hbx).trans p3
        have q2' := (hbel.cell (p := ⟨by_, oy + k * 2, none⟩) hby).trans q2
        have q3' := (hbel.cell (p := ⟨by_, oy + k * 2 + 1, none⟩) hby).trans q3
        have hs0 := hbel.size
        have hcall := compCompare_calls ok (w0.drewN 1) X Y (.slice a1 X.2.length c1) (.slice a2 Y.2.length c2) (p4.kept (fun b hb => hbel.block b (hok b hb)) (fun _ h => h)) (q4.kept (fun b hb => hbel.block b (hok b hb)) (fun _ h => h)) (fun b hb => by have := hok b hb; show b < w0.heap.size; omega)
        clear p4 q4
        go_wp2
        go_region_held3 (fun w' => (w'.cell? ⟨bx, ox + k * 2, none⟩ = some (.int .u64 (X.1 : Int)) ∧ w'.cell? ⟨bx, ox + k * 2 + 1, none⟩ = some (.slice a1 X.2.length c1)) ∧ (w'.cell? ⟨by_, oy + k * 2, none⟩ = some (.int .u64 (Y.1 : Int)) ∧ w'.cell? ⟨by_, oy + k * 2 + 1, none⟩ = some (.slice a2 Y.2.length c2))) (first | (go_keep; done) | exact ⟨⟨(hb'.cell (p := ⟨bx, ox + k * 2, none⟩) hbx).trans p2, (hb'.cell (p := ⟨bx, ox + k * 2 + 1, none⟩) hbx).trans p3⟩, ⟨(hb'.cell (p := ⟨by_, oy + k * 2, none⟩) hby).trans q2, (hb'.cell (p := ⟨by_, oy + k * 2 + 1, none⟩) hby).trans q3⟩⟩ | fail) (first
          | (go_at_call 61; refine hcall.mono ?_; rintro e w3 ⟨rfl, hb3⟩; have hb' : Below w.heap.size w w3 := (belowDrewN hbel 1).trans (hb3.mono hs0))
          | fail)
        by_cases hz : cmpC X Y = 0
        · have HST2 := HST.out
          rw [if_pos hz, HR.out] at HST2
          have HS3 : Hid (cmpN xs ys = cmpN (xs.drop (k + 1)) (ys.drop (k + 1))) := HST2
          clear HST2
          go_wp2
          go_roundw
          case rel => exact ⟨k + 1, by go_num, by omega, HS3.out.symm, hb'⟩
          case measure => simp [intOf]; omega
        · have HST2 := HST.out
          rw [if_neg hz, HR.out] at HST2
          have hzb : (cmpC X Y != 0) = true := by simpa using hz
          have HS3 : Hid (cmpN xs ys = cmpC X Y) := HST2
          clear HST2 hz
          go_wp2
          go_ret
          refine ⟨?_, hb'⟩
          rw [HS3.out]
          rfl
      · have hkm : k = xs.length := by omega
        have hH := HR.out
        rw [hkm] at hH
        have hE : cmpN xs ys = cmpI (xs.length : Int) (ys.length : Int) := by
          rw [← hH, List.drop_length, cmpI]
          by_cases hl2 : xs.length < ys.length
          · rw [List.drop_eq_getElem_cons hl2, if_pos (by omega)]
            rfl
          · rw [show xs.length = ys.length by omega, List.drop_length, if_neg (by omega), if_neg (by omega)]
            rfl
        have HE : Hid (cmpN xs ys = cmpI (xs.length : Int) (ys.length : Int)) := hE
        clear hH hE HR hkm
        go_wp2_with fail
        refine (cmp62_calls _ _ _).mono ?_
        rintro e w' ⟨rfl, rfl⟩
        go_wp2
        go_ret
        refine ⟨?_, hbel⟩
        rw [HE.out]
        rfl

set_option maxRecDepth 100000 in
theorem findName_calls (ok : Nat → Prop) (w : World) (xs ys : List (Nat × List UInt8)) (vx vp vy : Value) (hx : RC ok w vx xs) (hy : RC ok w vy ys) (hok : ∀ b, ok b → b < w.heap.size) (hlx : xs.length ≤ 1048576) (hly : ys.length ≤ 1048576) (hvp : ∃ a n c, vp = .slice a n c) :
    Calls Try.prog 53 #[.agg #[vx, vp], vy] w (RetN (cmpN xs ys) w) := by
  obtain ⟨ap, np, cp, rfl⟩ := hvp
  obtain ⟨ax, cx, rfl⟩ : ∃ ax cx, vx = .slice ax xs.length cx := by
    obtain ⟨a, c, e, _⟩ := hx
    exact ⟨a, c, e⟩
  have hbel : Below w.heap.size w (w.alloc (.cells #[.slice ax xs.length cx, .slice ap np cp] 78)) := (Below.refl _ _).alloc (Nat.le_refl _) _
  have hcall := nameCompare_calls ok (w.alloc (.cells #[.slice ax xs.length cx, .slice ap np cp] 78)) xs ys _ _ (hx.kept (fun b hb => hbel.block b (hok b hb)) (fun _ h => h)) (hy.kept (fun b hb => hbel.block b (hok b hb)) (fun _ h => h)) (fun b hb => by have := hok b hb; simp; omega) hlx hly
  go_enter Try.func53, Try.ntmps53
  go_wp2_with fail
  refine hcall.mono ?_
  rintro e w' ⟨rfl, hb⟩
  go_wp2
  go_ret
  exact ⟨rfl, hbel.trans (hb.mono (by simp))⟩

theorem findBoot_calls (w : World) (x s y : Int) : Calls Try.prog 56 #[.agg #[.int .u64 x, .int .u64 s], .int .u64 y] w (RetN (cmpI x y) w) := by
  have hbel : Below w.heap.size w (w.alloc (.cells #[.int .u64 x, .int .u64 s] 80)) := (Below.refl _ _).alloc (Nat.le_refl _) _
  go_enter Try.func56, Try.ntmps56
  go_wp2_with fail
  refine (cmp57_calls _ _ _).mono ?_
  rintro e w' ⟨rfl, rfl⟩
  go_wp2
  go_ret
  exact ⟨rfl, hbel⟩
end Go.Proofs.Qxb6604512a
