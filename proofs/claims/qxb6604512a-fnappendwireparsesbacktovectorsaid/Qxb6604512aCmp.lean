import Derived.Test.Qxb6604512aCost
namespace Go.Proofs.Qxb6604512a
open Go.RowKit
set_option linter.unusedVariables false

/-- bytes compared as numbers, the first unequal ones decide -/
def cmpB : List UInt8 → List UInt8 → Int
  | a :: r, b :: s => if a = b then cmpB r s else if a.toNat < b.toNat then -1 else 1
  | _, _ => 0

def cmpC (a b : Nat × List UInt8) : Int :=
  if a.1 = b.1 then (if a.2.length = b.2.length then cmpB a.2 b.2 else if a.2.length < b.2.length then -1 else 1) else if a.1 < b.1 then -1 else 1

def cmpN : List (Nat × List UInt8) → List (Nat × List UInt8) → Int
  | [], [] => 0
  | [], _ :: _ => -1
  | _ :: _, [] => 1
  | a :: r, b :: s => if cmpC a b = 0 then cmpN r s else cmpC a b

theorem cmpB_step (x y : List UInt8) (k : Nat) (hx : k < x.length) (hy : k < y.length) : cmpB (x.drop k) (y.drop k) = if x[k] = y[k] then cmpB (x.drop (k + 1)) (y.drop (k + 1)) else if x[k].toNat < y[k].toNat then -1 else 1 := by
  rw [List.drop_eq_getElem_cons hx, List.drop_eq_getElem_cons hy, cmpB]

theorem cmpN_step (x y : List (Nat × List UInt8)) (k : Nat) (hx : k < x.length) (hy : k < y.length) : cmpN (x.drop k) (y.drop k) = if cmpC x[k] y[k] = 0 then cmpN (x.drop (k + 1)) (y.drop (k + 1)) else cmpC x[k] y[k] := by
  rw [List.drop_eq_getElem_cons hx, List.drop_eq_getElem_cons hy, cmpN]

/-- a number is handed back, and only new blocks are laid -/
def RetN (m : Int) (w : World) (e : Ending) (w' : World) : Prop := e = .returned (.int .i64 m) ∧ Below w.heap.size w w'

set_option maxRecDepth 100000 in
set_option maxHeartbeats 4000000 in
theorem compComp_calls (ok : Nat → Prop) (w : World) (x y : Nat × List UInt8) (vx vy : Value) (hx : RB ok w vx x.2) (hy : RB ok w vy y.2) (hok : ∀ b, ok b → b < w.heap.size) (hlx : x.2.length ≤ 1048576) (hly : y.2.length ≤ 1048576) :
    Calls Try.prog 37 #[.agg #[.int .u64 (x.1 : Int), vx], .agg #[.int .u64 (y.1 : Int), vy]] w (RetN (cmpC x y) w) := by
  obtain ⟨ax, cx, rfl, hnx, hcx⟩ := hx
  obtain ⟨ay, cy, rfl, hny, hcy⟩ := hy
  have hbel : Below w.heap.size w ((w.alloc (.cells #[.int .u64 (x.1 : Int), .slice ax x.2.length cx] 55)).alloc (.cells #[.int .u64 (y.1 : Int), .slice ay y.2.length cy] 55)) := ((Below.refl _ _).alloc (Nat.le_refl _) _).alloc (by simp) _
  by_cases e1 : x.1 = y.1
  · by_cases e2 : x.2.length = y.2.length
    · have hm : cmpC x y = cmpB x.2 y.2 := by rw [cmpC, if_pos e1, if_pos e2]
      rw [hm]
      clear hm
      have i1 : ((x.1 : Int) != (y.1 : Int)) = false := by simp [e1]
      have i2 : ((x.2.length : Int) != (y.2.length : Int)) = false := by simp [e2]
      have HE2 : Hid (x.2.length = y.2.length) := e2
      clear e1 e2
      go_enter Try.func37, Try.ntmps37
      go_wp2
      obtain ⟨W, hW⟩ : ∃ W, W = (w.alloc (.cells #[.int .u64 (x.1 : Int), .slice ax x.2.length cx] 55)).alloc (.cells #[.int .u64 (y.1 : Int), .slice ay y.2.length cy] 55) := ⟨_, rfl⟩
      have g0 : W.cell? ⟨w.heap.size, 1, none⟩ = some (.slice ax x.2.length cx) := by rw [hW, World.cell?_alloc_lt (h := by simp)]; simp
      have g1 : W.cell? ⟨w.heap.size + 1, 1, none⟩ = some (.slice ay y.2.length cy) := by rw [hW, World.cell?_alloc_at (hn := by simp)]; simp
      rw [← hW] at hbel
      rw [← hW]
      clear hW
      go_loopw [5] (fun t wr => ∃ (k n : Nat), t = .int .i64 k ∧ k ≤ x.2.length ∧ cmpB (x.2.drop k) (y.2.drop k) = cmpB x.2 y.2 ∧ wr = W.drewN n) (fun t _ => x.2.length - (intOf t).toNat)
      case atStart => exact ⟨0, 0, rfl, Nat.zero_le _, rfl, rfl⟩
      case round =>
        obtain ⟨k, n, rfl, hk, hrest, rfl⟩ := hrel
        have HR : Hid (cmpB (x.2.drop k) (y.2.drop k) = cmpB x.2 y.2) := hrest
        clear hrest
        by_cases hlt : k < x.2.length
        · have hlt' : k < y.2.length := by rw [← HE2.out]; exact hlt
          obtain ⟨bx, ox, e, okx, h5⟩ := hcx (ne_nil_of_lt hlt)
          subst e
          obtain ⟨by_, oy, e, oky, h6⟩ := hcy (ne_nil_of_lt hlt')
          subst e
          have c1 := (hbel.cell (p := ⟨bx, ox + k, none⟩) (hok _ okx)).trans (h5 k hlt)
          have c2 := (hbel.cell (p := ⟨by_, oy + k, none⟩) (hok _ oky)).trans (h6 k hlt')
          have HST : Hid (cmpB (x.2.drop k) (y.2.drop k) = if x.2[k] = y.2[k] then cmpB (x.2.drop (k + 1)) (y.2.drop (k + 1)) else if x.2[k].toNat < y.2[k].toNat then -1 else 1) := cmpB_step x.2 y.2 k hlt hlt'
          have hI1 : (k : Int) < x.2.length := by omega
          have hI2 : (k : Int) < y.2.length := by omega
          obtain ⟨p, hp⟩ : ∃ p, p = x.2[k] := ⟨_, rfl⟩
          obtain ⟨q, hq⟩ : ∃ q, q = y.2[k] := ⟨_, rfl⟩
          rw [← hp] at c1 HST
          rw [← hq] at c2 HST
          clear hp hq h5 h6 hcx hcy hnx hny
          by_cases heq : p = q
          · subst heq
            have HST2 := HST.out
            rw [if_pos rfl, HR.out] at HST2
            have HS3 : Hid (cmpB x.2 y.2 = cmpB (x.2.drop (k + 1)) (y.2.drop (k + 1))) := HST2
            clear HST2
            go_wp2
            go_quiet (fail)
            go_wp2
            go_roundw
            case rel => exact ⟨k + 1, n + nq, by go_num, by omega, HS3.out.symm, by simp⟩
            case measure => simp [intOf]; omega
          · have hne : ((p.toNat : Int) != (q.toNat : Int)) = true := by
              simp only [bne_iff_ne, ne_eq, Int.natCast_inj]
              exact fun h => heq (UInt8.toNat_inj.1 h)
            have HST2 := HST.out
            rw [if_neg heq, HR.out] at HST2
            by_cases hpl : p.toNat < q.toNat
            · rw [if_pos hpl] at HST2
              rw [HST2]
              clear HST2 HR HST
              have hplI : (p.toNat : Int) < q.toNat := by omega
              go_wp2
              go_quiet (fail)
              go_wp2
              go_quiet (fail)
              go_wp2
              go_ret
              exact ⟨rfl, belowDrewN (belowDrewN (belowDrewN hbel _) _) _⟩
            · rw [if_neg hpl] at HST2
              rw [HST2]
              clear HST2 HR HST
              have hplI : ¬ (p.toNat : Int) < q.toNat := by omega
              go_wp2
              go_quiet (fail)
              go_wp2
              go_quiet (fail)
              go_wp2
              go_ret
              exact ⟨rfl, belowDrewN (belowDrewN (belowDrewN hbel _) _) _⟩
        · have hH := HR.out
          rw [List.drop_of_length_le (by omega)] at hH
          have h0 : cmpB x.2 y.2 = 0 := by rw [← hH]; rfl
          have H0 : Hid (cmpB x.2 y.2 = 0) := h0
          clear hH h0 HR
          go_wp2
          go_ret
          refine ⟨?_, belowDrewN hbel _⟩
          rw [H0.out]
          rfl
    · have i1 : ((x.1 : Int) != (y.1 : Int)) = false := by simp [e1]
      have i2 : ((x.2.length : Int) != (y.2.length : Int)) = true := by simp; omega
      by_cases e3 : x.2.length < y.2.length
      · have hm : cmpC x y = -1 := by rw [cmpC, if_pos e1, if_neg e2, if_pos e3]
        rw [hm]
        clear hm e1 e2
        go_enter Try.func37, Try.ntmps37
        go_wp2
        go_ret
        exact ⟨rfl, hbel⟩
      · have hm : cmpC x y = 1 := by rw [cmpC, if_pos e1, if_neg e2, if_neg e3]
        rw [hm]
        clear hm e1 e2
        go_enter Try.func37, Try.ntmps37
        go_wp2
        go_ret
        exact ⟨rfl, hbel⟩
  · have i1 : ((x.1 : Int) != (y.1 : Int)) = true := by simp; omega
    by_cases e3 : x.1 < y.1
    · have hm : cmpC x y = -1 := by rw [cmpC, if_neg e1, if_pos e3]
      rw [hm]
      clear hm e1
      go_enter Try.func37, Try.ntmps37
      go_wp2
      go_ret
      exact ⟨rfl, hbel⟩
    · have hm : cmpC x y = 1 := by rw [cmpC, if_neg e1, if_neg e3]
      rw [hm]
      clear hm e1
      go_enter Try.func37, Try.ntmps37
      go_wp2
      go_ret
      exact ⟨rfl, hbel⟩

set_option maxRecDepth 100000 in
set_option maxHeartbeats 4000000 in
theorem compName_calls (ok : Nat → Prop) (w : World) (xs ys : List (Nat × List UInt8)) (vx vy : Value) (hx : RC ok w vx xs) (hy : RC ok w vy ys) (hok : ∀ b, ok b → b < w.heap.size) (hlx : xs.length ≤ 1048576) (hly : ys.length ≤ 1048576) (hvx : ∀ c ∈ xs, c.2.length ≤ 1048576) (hvy : ∀ c ∈ ys, c.2.length ≤ 1048576) :
    Calls Try.prog 22 #[vx, vy] w (RetN (cmpN xs ys) w) := by
  obtain ⟨ax, cx, rfl, hnx, hcx⟩ := hx
  obtain ⟨ay, cy, rfl, hny, hcy⟩ := hy
  by_cases hle : (ys.length : Int) < xs.length
  · go_enter Try.func22, Try.ntmps22
    go_wp2
    go_loopw [6] (fun t wr => ∃ (k : Nat), t = .int .i64 k ∧ k ≤ ys.length ∧ cmpN (xs.drop k) (ys.drop k) = cmpN xs ys ∧ Below w.heap.size w wr) (fun t _ => ys.length - (intOf t).toNat)
    case atStart => exact ⟨0, rfl, Nat.zero_le _, rfl, Below.refl _ _⟩
    case round =>
      obtain ⟨k, rfl, hk, hrest, hbel⟩ := hrel
      obtain ⟨w0, hw0⟩ : ∃ w0, w0 = wr := ⟨_, rfl⟩
      subst hw0
      have HR : Hid (cmpN (xs.drop k) (ys.drop k) = cmpN xs ys) := hrest
      clear hrest
      by_cases hlt : k < ys.length
      · have hltx : k < xs.length := by omega
        have hlty : k < ys.length := by omega
        obtain ⟨bx, ox, e, okx, h5⟩ := hcx (ne_nil_of_lt hltx)
        subst e
        obtain ⟨by_, oy, e, oky, h6⟩ := hcy (ne_nil_of_lt hlty)
        subst e
        obtain ⟨p1, p2, v1, p3, p4⟩ := h5 k hltx
        obtain ⟨q1, q2, v2, q3, q4⟩ := h6 k hlty
        have hbx := hok _ okx
        have hby := hok _ oky
        have lx := hvx _ (List.getElem_mem hltx)
        have ly := hvy _ (List.getElem_mem hlty)
        have HST : Hid (cmpN (xs.drop k) (ys.drop k) = if cmpC xs[k] ys[k] = 0 then cmpN (xs.drop (k + 1)) (ys.drop (k + 1)) else cmpC xs[k] ys[k]) := cmpN_step xs ys k hltx hlty
        have hIx : (k : Int) < xs.length := by omega
        have hIy : (k : Int) < ys.length := by omega
        obtain ⟨X, hX⟩ : ∃ X, X = xs[k] := ⟨_, rfl⟩
        obtain ⟨Y, hY⟩ : ∃ Y, Y = ys[k] := ⟨_, rfl⟩
        rw [← hX] at p1 p2 p4 lx HST
        rw [← hY] at q1 q2 q4 ly HST
        clear hX hY h5 h6 hcx hcy hnx hny
        obtain ⟨a1, c1, rfl⟩ : ∃ a1 c1, v1 = .slice a1 X.2.length c1 := by
          obtain ⟨a1, c1, e, _⟩ := p4
          exact ⟨a1, c1, e⟩
        obtain ⟨a2, c2, rfl⟩ : ∃ a2 c2, v2 = .slice a2 Y.2.length c2 := by
          obtain ⟨a2, c2, e, _⟩ := q4
          exact ⟨a2, c2, e⟩
        have p2' := (hbel.cell (p := ⟨bx, ox + k * 2, none⟩) hbx).trans p2
        have p3' := (hbel.cell (p := ⟨bx, ox + k * 2 + 1, none⟩) hbx).trans p3
        have q2' := (hbel.cell (p := ⟨by_, oy + k * 2, none⟩) hby).trans q2
        have q3' := (hbel.cell (p := ⟨by_, oy + k * 2 + 1, none⟩) hby).trans q3
        have hs0 := hbel.size
        have hcall := compComp_calls ok (w0.drewN 1) X Y (.slice a1 X.2.length c1) (.slice a2 Y.2.length c2) (p4.kept (fun b hb => hbel.block b (hok b hb)) (fun _ h => h)) (q4.kept (fun b hb => hbel.block b (hok b hb)) (fun _ h => h)) (fun b hb => by have := hok b hb; show b < w0.heap.size; omega) lx ly
        clear p4 q4
        go_wp2
        go_region_held3 (fun w' => (w'.cell? ⟨bx, ox + k * 2, none⟩ = some (.int .u64 (X.1 : Int)) ∧ w'.cell? ⟨bx, ox + k * 2 + 1, none⟩ = some (.slice a1 X.2.length c1)) ∧ (w'.cell? ⟨by_, oy + k * 2, none⟩ = some (.int .u64 (Y.1 : Int)) ∧ w'.cell? ⟨by_, oy + k * 2 + 1, none⟩ = some (.slice a2 Y.2.length c2))) (first | (go_keep; done) | exact ⟨⟨(hb'.cell (p := ⟨bx, ox + k * 2, none⟩) hbx).trans p2, (hb'.cell (p := ⟨bx, ox + k * 2 + 1, none⟩) hbx).trans p3⟩, ⟨(hb'.cell (p := ⟨by_, oy + k * 2, none⟩) hby).trans q2, (hb'.cell (p := ⟨by_, oy + k * 2 + 1, none⟩) hby).trans q3⟩⟩ | fail) (first
          | (go_at_call 37; refine hcall.mono ?_; rintro e w3 ⟨rfl, hb3⟩; have hb' : Below w.heap.size w w3 := (belowDrewN hbel 1).trans (hb3.mono hs0))
          | fail)
        by_cases hz : cmpC X Y = 0
        · have HST2 := HST.out
          rw [if_pos hz, HR.out] at HST2
          have HS3 : Hid (cmpN xs ys = cmpN (xs.drop (k + 1)) (ys.drop (k + 1))) := HST2
          clear HST2
          go_wp2
          go_roundw
          case rel => exact ⟨k + 1, by go_num, by omega, HS3.out.symm, hb'⟩
          case measure => simp [intOf]; omega
        · have HST2 := HST.out
          rw [if_neg hz, HR.out] at HST2
          have hzb : (cmpC X Y != 0) = true := by simpa using hz
          have HS3 : Hid (cmpN xs ys = cmpC X Y) := HST2
          clear HST2 hz
          go_wp2
          go_ret
          refine ⟨?_, hb'⟩
          rw [HS3.out]
          rfl
      · have hkm : k = ys.length := by omega
        have hH := HR.out
        rw [hkm] at hH
        have hE : cmpN xs ys = 1 := by
          rw [← hH, List.drop_length, List.drop_eq_getElem_cons (by omega)]
          rfl
        have HE : Hid (cmpN xs ys = 1) := hE
        clear hH hE HR hkm
        go_wp2
        go_ret
        refine ⟨?_, hbel⟩
        rw [HE.out]
        rfl
  · go_enter Try.func22, Try.ntmps22
    go_wp2
    go_loopw [6] (fun t wr => ∃ (k : Nat), t = .int .i64 k ∧ k ≤ xs.length ∧ cmpN (xs.drop k) (ys.drop k) = cmpN xs ys ∧ Below w.heap.size w wr) (fun t _ => xs.length - (intOf t).toNat)
    case atStart => exact ⟨0, rfl, Nat.zero_le _, rfl, Below.refl _ _⟩
    case round =>
      obtain ⟨k, rfl, hk, hrest, hbel⟩ := hrel
      obtain ⟨w0, hw0⟩ : ∃ w0, w0 = wr := ⟨_, rfl⟩
      subst hw0
      have HR : Hid (cmpN (xs.drop k) (ys.drop k) = cmpN xs ys) := hrest
      clear hrest
      by_cases hlt : k < xs.length
      · have hltx : k < xs.length := by omega
        have hlty : k < ys.length := by omega
        obtain ⟨bx, ox, e, okx, h5⟩ := hcx (ne_nil_of_lt hltx)
        subst e
        obtain ⟨by_, oy, e, oky, h6⟩ := hcy (ne_nil_of_lt hlty)
        subst e
        obtain ⟨p1, p2, v1, p3, p4⟩ := h5 k hltx
        obtain ⟨q1, q2, v2, q3, q4⟩ := h6 k hlty
        have hbx := hok _ okx
        have hby := hok _ oky
        have lx := hvx _ (List.getElem_mem hltx)
        have ly := hvy _ (List.getElem_mem hlty)
        have HST : Hid (cmpN (xs.drop k) (ys.drop k) = if cmpC xs[k] ys[k] = 0 then cmpN (xs.drop (k + 1)) (ys.drop (k + 1)) else cmpC xs[k] ys[k]) := cmpN_step xs ys k hltx hlty
        have hIx : (k : Int) < xs.length := by omega
        have hIy : (k : Int) < ys.length := by omega
        obtain ⟨X, hX⟩ : ∃ X, X = xs[k] := ⟨_, rfl⟩
        obtain ⟨Y, hY⟩ : ∃ Y, Y = ys[k] := ⟨_, rfl⟩
        rw [← hX] at p1 p2 p4 lx HST
        rw [← hY] at q1 q2 q4 ly HST
        clear hX hY h5 h6 hcx hcy hnx hny
        obtain ⟨a1, c1, rfl⟩ : ∃ a1 c1, v1 = .slice a1 X.2.length c1 := by
          obtain ⟨a1, c1, e, _⟩ := p4
          exact ⟨a1, c1, e⟩
        obtain ⟨a2, c2, rfl⟩ : ∃ a2 c2, v2 = .slice a2 Y.2.length c2 := by
          obtain ⟨a2, c2, e, _⟩ := q4
          exact ⟨a2, c2, e⟩
        have p2' := (hbel.cell (p := ⟨bx, ox + k * 2, none⟩) hbx).trans p2
        have p3' := (hbel.cell (p := ⟨bx, ox + k * 2 + 1, none⟩) hbx).trans p3
        have q2' := (hbel.cell (p := ⟨by_, oy + k * 2, none⟩) hby).trans q2
        have q3' := (hbel.cell (p := ⟨by_, oy + k * 2 + 1, none⟩) hby).trans q3
        have hs0 := hbel.size
        have hcall := compComp_calls ok (w0.drewN 1) X Y (.slice a1 X.2.length c1) (.slice a2 Y.2.length c2) (p4.kept (fun b hb => hbel.block b (hok b hb)) (fun _ h => h)) (q4.kept (fun b hb => hbel.block b (hok b hb)) (fun _ h => h)) (fun b hb => by have := hok b hb; show b < w0.heap.size; omega) lx ly
        clear p4 q4
        go_wp2
        go_region_held3 (fun w' => (w'.cell? ⟨bx, ox + k * 2, none⟩ = some (.int .u64 (X.1 : Int)) ∧ w'.cell? ⟨bx, ox + k * 2 + 1, none⟩ = some (.slice a1 X.2.length c1)) ∧ (w'.cell? ⟨by_, oy + k * 2, none⟩ = some (.int .u64 (Y.1 : Int)) ∧ w'.cell? ⟨by_, oy + k * 2 + 1, none⟩ = some (.slice a2 Y.2.length c2))) (first | (go_keep; done) | exact ⟨⟨(hb'.cell (p := ⟨bx, ox + k * 2, none⟩) hbx).trans p2, (hb'.cell (p := ⟨bx, ox + k * 2 + 1, none⟩) hbx).trans p3⟩, ⟨(hb'.cell (p := ⟨by_, oy + k * 2, none⟩) hby).trans q2, (hb'.cell (p := ⟨by_, oy + k * 2 + 1, none⟩) hby).trans q3⟩⟩ | fail) (first
          | (go_at_call 37; refine hcall.mono ?_; rintro e w3 ⟨rfl, hb3⟩; have hb' : Below w.heap.size w w3 := (belowDrewN hbel 1).trans (hb3.mono hs0))
          | fail)
        by_cases hz : cmpC X Y = 0
        · have HST2 := HST.out
          rw [if_pos hz, HR.out] at HST2
          have HS3 : Hid (cmpN xs ys = cmpN (xs.drop (k + 1)) (ys.drop (k + 1))) := HST2
          clear HST2
          go_wp2
          go_roundw
          case rel => exact ⟨k + 1, by go_num, by omega, HS3.out.symm, hb'⟩
          case measure => simp [intOf]; omega
        · have HST2 := HST.out
          rw [if_neg hz, HR.out] at HST2
          have hzb : (cmpC X Y != 0) = true := by simpa using hz
          have HS3 : Hid (cmpN xs ys = cmpC X Y) := HST2
          clear HST2 hz
          go_wp2
          go_ret
          refine ⟨?_, hb'⟩
          rw [HS3.out]
          rfl
      · have hkm : k = xs.length := by omega
        have hH := HR.out
        rw [hkm] at hH
        by_cases hl2 : xs.length < ys.length
        · have hE : cmpN xs ys = -1 := by
            rw [← hH, List.drop_length, List.drop_eq_getElem_cons hl2]
            rfl
          have HE : Hid (cmpN xs ys = -1) := hE
          clear hH hE HR hkm
          go_wp2
          go_ret
          refine ⟨?_, hbel⟩
          rw [HE.out]
          rfl
        · have hE : cmpN xs ys = 0 := by
            rw [← hH, List.drop_length, show xs.length = ys.length by omega, List.drop_length]
            rfl
          have HE : Hid (cmpN xs ys = 0) := hE
          clear hH hE HR hkm
          go_wp2
          go_ret
          refine ⟨?_, hbel⟩
          rw [HE.out]
          rfl
end Go.Proofs.Qxb6604512a
