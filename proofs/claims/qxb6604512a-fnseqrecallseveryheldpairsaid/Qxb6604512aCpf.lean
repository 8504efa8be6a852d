import Derived.Test.Qxb6604512aOrd
namespace Go.Proofs.Qxb6604512a
open Go.RowKit
set_option linter.unusedVariables false

theorem lib_bytesOf (l : List UInt8) : Lib.bytesOf (l.map fun b => (b.toNat : Int)) = l := by
  unfold Lib.bytesOf
  rw [List.map_map]
  conv => rhs; rw [← List.map_id l]
  refine List.map_congr_left fun a _ => ?_
  simp

theorem run_bytesOf_RB {ok : Nat → Prop} {w : World} {v : Value} {l : List UInt8} (h : RB ok w v l) : (Extern.Bytes.bytesOf v).run Try.prog w = .ok ⟨l.toArray⟩ w := by
  obtain ⟨a, cap, rfl, hn, hc⟩ := h
  cases a with
  | none =>
    obtain ⟨rfl, _⟩ := hn rfl
    rfl
  | some ad =>
    by_cases e : l = []
    · subst e
      rfl
    · obtain ⟨b, off, e1, _, h5⟩ := hc e
      cases e1
      have hl := Lib.run_loadBytesX (P := Try.prog) w (l.map fun b => (b.toNat : Int)) ⟨b, off, none⟩ .empty (fun j x hj => by
        rw [List.getElem?_map] at hj
        have hjl : j < l.length := by
          by_cases h : j < l.length
          · exact h
          · rw [List.getElem?_eq_none (by omega)] at hj; simp at hj
        rw [List.getElem?_eq_getElem hjl] at hj
        simp at hj
        subst hj
        have e : (⟨b, off, none⟩ : Addr).add j = ⟨b, off + j, none⟩ := by unfold Addr.add; split <;> simp_all
        rw [e]
        exact h5 j hjl)
      rw [lib_bytesOf, List.length_map] at hl
      show (Extern.Bytes.loadBytes ⟨b, off, none⟩ l.length .empty).run Try.prog w = _
      rw [hl]
      congr 1
      apply ByteArray.ext
      show (#[] : Array UInt8) ++ l.toArray = l.toArray
      simp

theorem run_bytealg {ok : Nat → Prop} {w : World} {vx vy : Value} {x y : List UInt8} (hx : RB ok w vx x) (hy : RB ok w vy y) :
    (callFunc 71 #[vx, vy]).run Try.prog w = .ok (.value (.int .i64 (Lib.compareBytes x y))) w := by
  rw [run_callFunc_extern Try.func71 (by kernel_rfl) (by kernel_rfl) (by kernel_rfl) (e := Extern.BytealgCompare.compare) (by kernel_rfl)]
  have e : (Extern.BytealgCompare.compare #[vx, vy]).run Try.prog w = .ok (.int .i64 (Lib.compareBytes x y)) w := by
    change Sem.run Try.prog (do pure (goInt (Extern.BytealgCompare.cmp (← Extern.Bytes.bytesOf vx) (← Extern.Bytes.bytesOf vy)))) w = _
    simp only [Sem.run_bind, run_bytesOf_RB hx, run_bytesOf_RB hy, Sem.run_pure, Result.andThen]
    rw [Lib.cmp_eq]
    rfl
  rw [e]
  rfl

def RetX (m : Int) (w : World) (e : Ending) (w' : World) : Prop := e = .returned (.int .i64 m) ∧ w' = w

theorem bytesCompare_calls (ok : Nat → Prop) (w : World) (vx vy : Value) (x y : List UInt8) (hx : RB ok w vx x) (hy : RB ok w vy y) (he : x.length = y.length) :
    Calls Try.prog 68 #[vx, vy] w (RetX (cmpB x y) w) := by
  have h := run_bytealg hx hy
  rw [cmpB_compareBytes x y he] at h
  go_enter Try.func68, Try.ntmps68
  go_wp2
  go_ret
  exact ⟨rfl, rfl⟩

def cmpI (a b : Int) : Int := if a < b then -1 else if b < a then 1 else 0

theorem cmp57_calls (w : World) (a b : Int) : Calls Try.prog 57 #[.int .u64 a, .int .u64 b] w (RetX (cmpI a b) w) := by
  unfold cmpI
  by_cases h1 : a < b
  · rw [if_pos h1]
    go_enter Try.func57, Try.ntmps57
    go_wp2
    go_ret
    exact ⟨rfl, rfl⟩
  · rw [if_neg h1]
    by_cases h2 : b < a
    · rw [if_pos h2]
      go_enter Try.func57, Try.ntmps57
      go_wp2
      go_ret
      exact ⟨rfl, rfl⟩
    · rw [if_neg h2]
      go_enter Try.func57, Try.ntmps57
      go_wp2
      go_ret
      exact ⟨rfl, rfl⟩

theorem cmp67_calls (w : World) (a b : Int) : Calls Try.prog 67 #[.int .u64 a, .int .u64 b] w (RetX (cmpI a b) w) := by
  unfold cmpI
  by_cases h1 : a < b
  · rw [if_pos h1]
    go_enter Try.func67, Try.ntmps67
    go_wp2
    go_ret
    exact ⟨rfl, rfl⟩
  · rw [if_neg h1]
    by_cases h2 : b < a
    · rw [if_pos h2]
      go_enter Try.func67, Try.ntmps67
      go_wp2
      go_ret
      exact ⟨rfl, rfl⟩
    · rw [if_neg h2]
      go_enter Try.func67, Try.ntmps67
      go_wp2
      go_ret
      exact ⟨rfl, rfl⟩

theorem cmp62_calls (w : World) (a b : Int) : Calls Try.prog 62 #[.int .i64 a, .int .i64 b] w (RetX (cmpI a b) w) := by
  unfold cmpI
  by_cases h1 : a < b
  · rw [if_pos h1]
    go_enter Try.func62, Try.ntmps62
    go_wp2
    go_ret
    exact ⟨rfl, rfl⟩
  · rw [if_neg h1]
    by_cases h2 : b < a
    · rw [if_pos h2]
      go_enter Try.func62, Try.ntmps62
      go_wp2
      go_ret
      exact ⟨rfl, rfl⟩
    · rw [if_neg h2]
      go_enter Try.func62, Try.ntmps62
      go_wp2
      go_ret
      exact ⟨rfl, rfl⟩

set_option maxRecDepth 100000 in
set_option maxHeartbeats 1000000 in
theorem compCompare_calls (ok : Nat → Prop) (w : World) (x y : Nat × List UInt8) (vx vy : Value) (hx : RB ok w vx x.2) (hy : RB ok w vy y.2) (hok : ∀ b, ok b → b < w.heap.size) :
    Calls Try.prog 61 #[.agg #[.int .u64 (x.1 : Int), vx], .agg #[.int .u64 (y.1 : Int), vy]] w (RetN (cmpC x y) w) := by
  obtain ⟨ax, cx, rfl⟩ : ∃ ax cx, vx = .slice ax x.2.length cx := by
    obtain ⟨a, c, e, _⟩ := hx
    exact ⟨a, c, e⟩
  obtain ⟨ay, cy, rfl⟩ : ∃ ay cy, vy = .slice ay y.2.length cy := by
    obtain ⟨a, c, e, _⟩ := hy
    exact ⟨a, c, e⟩
  have hbel : Below w.heap.size w ((w.alloc (.cells #[.int .u64 (x.1 : Int), .slice ax x.2.length cx] 86)).alloc (.cells #[.int .u64 (y.1 : Int), .slice ay y.2.length cy] 86)) := ((Below.refl _ _).alloc (Nat.le_refl _) _).alloc (by simp) _
  by_cases e1 : x.1 = y.1
  · have i1 : ((x.1 : Int) != (y.1 : Int)) = false := by simp [e1]
    by_cases e2 : x.2.length = y.2.length
    · have hm : cmpC x y = cmpB x.2 y.2 := by rw [cmpC, if_pos e1, if_pos e2]
      rw [hm]
      have i2 : ((x.2.length : Int) != (y.2.length : Int)) = false := by simp [e2]
      have hx' := hx.kept (w' := (w.alloc (.cells #[.int .u64 (x.1 : Int), .slice ax x.2.length cx] 86)).alloc (.cells #[.int .u64 (y.1 : Int), .slice ay y.2.length cy] 86)) (fun b hb => hbel.block b (hok b hb)) (fun _ h => h)
      have hy' := hy.kept (w' := (w.alloc (.cells #[.int .u64 (x.1 : Int), .slice ax x.2.length cx] 86)).alloc (.cells #[.int .u64 (y.1 : Int), .slice ay y.2.length cy] 86)) (fun b hb => hbel.block b (hok b hb)) (fun _ h => h)
      have hcall := bytesCompare_calls ok _ _ _ _ _ hx' hy' e2
      clear hm e1 e2 hx hy hx' hy'
      go_enter Try.func61, Try.ntmps61
      go_wp2_with fail
      refine hcall.mono ?_
      rintro e w' ⟨rfl, rfl⟩
      go_wp2
      go_ret
      exact ⟨rfl, hbel⟩
    · have i2 : ((x.2.length : Int) != (y.2.length : Int)) = true := by simp; omega
      have hm : cmpC x y = cmpI (x.2.length : Int) (y.2.length : Int) := by
        rw [cmpC, if_pos e1, if_neg e2, cmpI]
        by_cases h : x.2.length < y.2.length
        · rw [if_pos h, if_pos (by omega)]
        · rw [if_neg h, if_neg (by omega), if_pos (by omega)]
      rw [hm]
      clear hm e1 e2 hx hy
      go_enter Try.func61, Try.ntmps61
      go_wp2_with fail
      refine (cmp62_calls _ _ _).mono ?_
      rintro e w' ⟨rfl, rfl⟩
      go_wp2
      go_ret
      exact ⟨rfl, hbel⟩
  · have i1 : ((x.1 : Int) != (y.1 : Int)) = true := by simp; omega
    have hm : cmpC x y = cmpI (x.1 : Int) (y.1 : Int) := by
      rw [cmpC, if_neg e1, cmpI]
      by_cases h : x.1 < y.1
      · rw [if_pos h, if_pos (by omega)]
      · rw [if_neg h, if_neg (by omega), if_pos (by omega)]
    rw [hm]
    clear hm e1 hx hy
    go_enter Try.func61, Try.ntmps61
    go_wp2_with fail
    refine (cmp67_calls _ _ _).mono ?_
    rintro e w' ⟨rfl, rfl⟩
    go_wp2
    go_ret
    exact ⟨rfl, hbel⟩
end Go.Proofs.Qxb6604512a
