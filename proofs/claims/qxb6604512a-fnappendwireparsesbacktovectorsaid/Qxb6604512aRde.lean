import Derived.Test.Qxb6604512aRdv
namespace Go.Proofs.Qxb6604512a
open Go.RowKit
set_option linter.unusedVariables false

theorem results_four {fn : Func} {t u v x : Tmp} (h : fn.results = #[.tmp t, .tmp u, .tmp v, .tmp x]) (tmps : Array Value) (P : Program) (w : World) :
    (results fn tmps).run P w = .ok (.tuple #[tmps.getD t undef, tmps.getD u undef, tmps.getD v undef, tmps.getD x undef]) w := by
  simp [results, h]

theorem Cells.mid {w : World} {b off : Nat} {L pre X post : List UInt8} (h : Cells w b off L) (hL : L = pre ++ X ++ post) (k : Nat) (hk : k < X.length) : w.cell? ⟨b, off + (pre.length + k), none⟩ = some (.int .u8 (X[k].toNat : Int)) := by
  subst hL
  have := h (pre.length + k) (by simp; omega)
  rw [List.getElem_append_left (by simp; omega), List.getElem_append_right (by omega)] at this
  simpa using this

set_option maxRecDepth 100000 in
set_option maxHeartbeats 1000000 in
theorem readVar_calls (w : World) (b off cap : Nat) (L pre post : List UInt8) (n : Nat) (hL : L = pre ++ varNum n ++ post) (hc : Cells w b off L) (hn : n < 18446744073709551616) (hlen : L.length ≤ 1407374883553) :
    Calls Try.prog 46 #[.slice (some ⟨b, off, none⟩) L.length cap, .int .i64 (pre.length : Int)] w (VarPost n (pre.length + (varNum n).length) w) := by
  have hm := hc.mid hL
  have hl : L.length = pre.length + (varNum n).length + post.length := by rw [hL]; simp; omega
  clear hL hc
  by_cases h1 : n < 253
  · have e : varNum n = Lib.beBytes 1 n := by rw [varNum, if_pos h1]
    have e1 : (varNum n).length = 1 := by rw [e, Lib.beBytes_length]
    have c0 := hm 0 (by omega)
    have e2 : (varNum n)[0].toNat = n := by
      simp only [e]
      simp [Lib.beBytes, Lib.leBytes]
      omega
    rw [e2, Nat.add_zero] at c0
    rw [e1] at hl ⊢
    have hI : (n : Int) < 253 := by omega
    have hi2 : (pre.length : Int) < L.length := by omega
    clear hm e e1 e2 h1 hn
    generalize pre.length = i at *
    generalize L.length = N at *
    go_enter Try.func46, Try.ntmps46
    go_wp2
    go_ret3
    refine ⟨?_, rfl⟩
    go_num
  · have core : ∀ (f W : Nat) (D : List UInt8), varNum n = (UInt8.ofNat f) :: D → f < 256 → D.length = W → val D = n → ((f = 253 ∧ D.length = 2 ∧ 253 ≤ val D) ∨ (f = 254 ∧ D.length = 4 ∧ 65536 ≤ val D) ∨ (f = 255 ∧ D.length = 8 ∧ 4294967296 ≤ val D)) →
        Calls Try.prog 46 #[.slice (some ⟨b, off, none⟩) L.length cap, .int .i64 (pre.length : Int)] w (VarPost n (pre.length + (varNum n).length) w) := by
      intro f W D e hf hW hv hcs
      have hlen2 : (varNum n).length = D.length + 1 := by rw [e]; rfl
      have := readVar_core w b off cap L.length pre.length f D (by
        have c0 := hm 0 (by omega)
        simp only [e] at c0
        simp only [List.getElem_cons_zero, Nat.add_zero] at c0
        rw [c0, show (UInt8.ofNat f).toNat = f by rw [UInt8.toNat_ofNat']; omega]) (fun k hk => by
        have c1 := hm (k + 1) (by omega)
        simp only [e] at c1
        simp only [List.getElem_cons_succ] at c1
        rw [← c1]
        congr 2
        omega) (by omega) hlen hcs
      rw [hv, show pre.length + 1 + D.length = pre.length + (varNum n).length by omega] at this
      exact this
    by_cases h2 : n ≤ 65535
    · have hv := val_be 2 n (by omega)
      exact core 253 2 (Lib.beBytes 2 n) (by rw [varNum, if_neg h1, if_pos h2]; rfl) (by omega) (Lib.beBytes_length _ _) hv (.inl ⟨rfl, Lib.beBytes_length _ _, by omega⟩)
    · by_cases h3 : n ≤ 4294967295
      · have hv := val_be 4 n (by omega)
        exact core 254 4 (Lib.beBytes 4 n) (by rw [varNum, if_neg h1, if_neg h2, if_pos h3]; rfl) (by omega) (Lib.beBytes_length _ _) hv (.inr (.inl ⟨rfl, Lib.beBytes_length _ _, by omega⟩))
      · have hv := val_be 8 n (by omega)
        exact core 255 8 (Lib.beBytes 8 n) (by rw [varNum, if_neg h1, if_neg h2, if_neg h3]; rfl) (by omega) (Lib.beBytes_length _ _) hv (.inr (.inr ⟨rfl, Lib.beBytes_length _ _, by omega⟩))

/-- how long an element's head is -/
def headLen (t : Nat) (l : List UInt8) : Nat := (varNum t).length + (varNum l.length).length

theorem elem_length (t : Nat) (l : List UInt8) : (elem t l).length = headLen t l + l.length := by simp only [elem, headLen, List.length_append]

def ElemPost (t q r : Nat) (w : World) (e : Ending) (w' : World) : Prop := e = .returned (.tuple #[.int .u64 (t : Int), .int .i64 (q : Int), .int .i64 (r : Int), .bool true]) ∧ w' = w

set_option maxRecDepth 100000 in
set_option maxHeartbeats 1000000 in
theorem readElem_calls (w : World) (b off cap : Nat) (L pre post v : List UInt8) (t : Nat) (hL : L = pre ++ elem t v ++ post) (hc : Cells w b off L) (ht : t < 18446744073709551616) (hlen : L.length ≤ 1407374883553) :
    Calls Try.prog 35 #[.slice (some ⟨b, off, none⟩) L.length cap, .int .i64 (pre.length : Int)] w (ElemPost t (pre.length + headLen t v) (pre.length + (elem t v).length) w) := by
  have hl : L.length = pre.length + (varNum t).length + (varNum v.length).length + v.length + post.length := by rw [hL]; simp only [elem, List.length_append, Nat.add_assoc]
  have hvl : v.length < 18446744073709551616 := by
    revert hl
    generalize (varNum t).length = A
    generalize (varNum v.length).length = B
    intro hl
    omega
  have call1 := readVar_calls w b off cap L pre (varNum v.length ++ v ++ post) t (by rw [hL]; simp only [elem, List.append_assoc]) hc ht hlen
  have call2 := readVar_calls w b off cap L (pre ++ varNum t) (v ++ post) v.length (by rw [hL]; simp only [elem, List.append_assoc]) hc hvl hlen
  have hq : (pre ++ varNum t).length = pre.length + (varNum t).length := by simp
  rw [hq] at call2
  have e1 : pre.length + headLen t v = pre.length + (varNum t).length + (varNum v.length).length := by rw [headLen, Nat.add_assoc]
  have e2 : pre.length + (elem t v).length = pre.length + (varNum t).length + (varNum v.length).length + v.length := by rw [elem_length, headLen]; simp only [Nat.add_assoc]
  rw [e1, e2]
  clear e1 e2 hq hL hc hvl
  generalize pre.length + (varNum t).length = p at *
  generalize p + (varNum v.length).length = q at *
  generalize v.length = vl at *
  generalize L.length = N at *
  have hl2 : q + vl ≤ N := by omega
  clear hl ht
  generalize pre.length = i at *
  go_enter Try.func35, Try.ntmps35
  go_wp2_with fail
  refine call1.mono ?_
  rintro e w1 ⟨rfl, hw⟩
  subst hw
  go_wp2_with fail
  refine call2.mono ?_
  rintro e w2 ⟨rfl, hw⟩
  subst hw
  obtain ⟨r, hr⟩ : ∃ r : Nat, (N : Int) - (q : Int) = (r : Int) := ⟨N - q, by omega⟩
  have hle : ¬ (r : Int) < vl := by omega
  have hw1 : IntKind.i64.wrap (r : Int) = (r : Int) := by rw [IntKind.wrap_i64]; omega
  have hw2 : IntKind.u64.wrap (r : Int) = (r : Int) := by rw [IntKind.wrap_u64]; omega
  have hw3 : IntKind.i64.wrap (vl : Int) = (vl : Int) := by rw [IntKind.wrap_i64]; omega
  go_wp2
  (try simp only [Exit.inBlock, Exit.then])
  refine bodyPost_ret (results_four rfl _ _ _) rfl ?_
  refine ⟨?_, rfl⟩
  go_num

def IntPost (n : Nat) (w : World) (e : Ending) (w' : World) : Prop := e = .returned (.tuple #[.int .u64 (n : Int), .bool true]) ∧ w' = w

set_option maxRecDepth 100000 in
set_option maxHeartbeats 4000000 in
theorem readInt_core (w : World) (b off cap : Nat) (D : List UInt8) (cD : Cells w b off D) (hcase : D.length = 1 ∨ (D.length = 2 ∧ 256 ≤ val D) ∨ (D.length = 4 ∧ 65536 ≤ val D) ∨ (D.length = 8 ∧ 4294967296 ≤ val D)) :
    Calls Try.prog 50 #[.slice (some ⟨b, off, none⟩) D.length cap] w (IntPost (val D) w) := by
  rcases hcase with hD | ⟨hD, hv⟩ | ⟨hD, hv⟩ | ⟨hD, hv⟩
  · rw [hD]
    have HD : Hid (D.length = 1) := hD
    clear hD
    go_enter Try.func50, Try.ntmps50
    go_wp2
    go_loopw [5, 6] (fun s10 s11 wr => ∃ k : Nat, s11 = .int .i64 k ∧ k ≤ 1 ∧ s10 = .int .u64 (val (D.take k) : Int) ∧ wr = w) (fun _ s11 _ => 1 - (intOf s11).toNat)
    case atStart => exact ⟨0, rfl, by omega, by simp [val], rfl⟩
    case round =>
      obtain ⟨k, rfl, hk, rfl, rfl⟩ := hrel
      by_cases hlt : k < 1
      · have hkD : k < D.length := by rw [HD.out]; exact hlt
        have c1 := cD k hkD
        have hb1 := val_take_lt D k (by omega)
        have hb2 : 256 ^ k ≤ 256 ^ 7 := Nat.pow_le_pow_right (by omega) (by omega)
        have hb3 : val (D.take k) < 72057594037927936 := by
          have : (256 : Nat) ^ 7 = 72057594037927936 := by decide
          omega
        have hvs := val_succ D k hkD
        have hc := (D[k]).toNat_lt
        generalize D[k].toNat = c at c1 hvs hc
        have hor := or_byte (val (D.take k)) c hb3 (by omega)
        generalize hx : val (D.take k) = x at hvs hor hb3
        have HS : Hid (val (D.take (k + 1)) = x * 256 + c) := hvs
        have hkI : (k : Int) < 1 := by omega
        clear hvs hb1 hb2 hx
        go_wp2
        go_roundw
        case rel => exact ⟨k + 1, by go_num, by omega, by rw [HS.out]; go_num, trivial⟩
        case measure => simp [intOf]; omega
      · have hkl : k = 1 := by omega
        have ht : val (D.take k) = val D := by rw [List.take_of_length_le (by have := HD.out; omega)]
        rw [ht]
        obtain ⟨V, hV⟩ : ∃ V : Int, V = (val D : Int) := ⟨_, rfl⟩
        rw [← hV]
        have HE : Hid (V = (val D : Int)) := hV
        clear ht hkl hV
        go_wp2
        go_ret2
        refine ⟨?_, rfl⟩
        rw [← HE.out]
        go_num
  · have HV : Hid (256 ≤ val D) := hv
    rw [hD]
    have HD : Hid (D.length = 2) := hD
    clear hD hv
    go_enter Try.func50, Try.ntmps50
    go_wp2
    go_loopw [5, 6] (fun s10 s11 wr => ∃ k : Nat, s11 = .int .i64 k ∧ k ≤ 2 ∧ s10 = .int .u64 (val (D.take k) : Int) ∧ wr = w) (fun _ s11 _ => 2 - (intOf s11).toNat)
    case atStart => exact ⟨0, rfl, by omega, by simp [val], rfl⟩
    case round =>
      obtain ⟨k, rfl, hk, rfl, rfl⟩ := hrel
      by_cases hlt : k < 2
      · have hkD : k < D.length := by rw [HD.out]; exact hlt
        have c1 := cD k hkD
        have hb1 := val_take_lt D k (by omega)
        have hb2 : 256 ^ k ≤ 256 ^ 7 := Nat.pow_le_pow_right (by omega) (by omega)
        have hb3 : val (D.take k) < 72057594037927936 := by
          have : (256 : Nat) ^ 7 = 72057594037927936 := by decide
          omega
        have hvs := val_succ D k hkD
        have hc := (D[k]).toNat_lt
        generalize D[k].toNat = c at c1 hvs hc
        have hor := or_byte (val (D.take k)) c hb3 (by omega)
        generalize hx : val (D.take k) = x at hvs hor hb3
        have HS : Hid (val (D.take (k + 1)) = x * 256 + c) := hvs
        have hkI : (k : Int) < 2 := by omega
        clear hvs hb1 hb2 hx
        go_wp2
        go_roundw
        case rel => exact ⟨k + 1, by go_num, by omega, by rw [HS.out]; go_num, trivial⟩
        case measure => simp [intOf]; omega
      · have hkl : k = 2 := by omega
        have ht : val (D.take k) = val D := by rw [List.take_of_length_le (by have := HD.out; omega)]
        rw [ht]
        have hv := HV.out
        obtain ⟨V, hV⟩ : ∃ V : Int, V = (val D : Int) := ⟨_, rfl⟩
        have hvI : ¬ V < 256 := by omega
        rw [← hV]
        have HE : Hid (V = (val D : Int)) := hV
        clear ht hkl HV hv hV
        go_wp2
        go_ret2
        refine ⟨?_, rfl⟩
        rw [← HE.out]
        go_num
  · have HV : Hid (65536 ≤ val D) := hv
    rw [hD]
    have HD : Hid (D.length = 4) := hD
    clear hD hv
    go_enter Try.func50, Try.ntmps50
    go_wp2
    go_loopw [5, 6] (fun s10 s11 wr => ∃ k : Nat, s11 = .int .i64 k ∧ k ≤ 4 ∧ s10 = .int .u64 (val (D.take k) : Int) ∧ wr = w) (fun _ s11 _ => 4 - (intOf s11).toNat)
    case atStart => exact ⟨0, rfl, by omega, by simp [val], rfl⟩
    case round =>
      obtain ⟨k, rfl, hk, rfl, rfl⟩ := hrel
      by_cases hlt : k < 4
      · have hkD : k < D.length := by rw [HD.out]; exact hlt
        have c1 := cD k hkD
        have hb1 := val_take_lt D k (by omega)
        have hb2 : 256 ^ k ≤ 256 ^ 7 := Nat.pow_le_pow_right (by omega) (by omega)
        have hb3 : val (D.take k) < 72057594037927936 := by
          have : (256 : Nat) ^ 7 = 72057594037927936 := by decide
          omega
        have hvs := val_succ D k hkD
        have hc := (D[k]).toNat_lt
        generalize D[k].toNat = c at c1 hvs hc
        have hor := or_byte (val (D.take k)) c hb3 (by omega)
        generalize hx : val (D.take k) = x at hvs hor hb3
        have HS : Hid (val (D.take (k + 1)) = x * 256 + c) := hvs
        have hkI : (k : Int) < 4 := by omega
        clear hvs hb1 hb2 hx
        go_wp2
        go_roundw
        case rel => exact ⟨k + 1, by go_num, by omega, by rw [HS.out]; go_num, trivial⟩
        case measure => simp [intOf]; omega
      · have hkl : k = 4 := by omega
        have ht : val (D.take k) = val D := by rw [List.take_of_length_le (by have := HD.out; omega)]
        rw [ht]
        have hv := HV.out
        obtain ⟨V, hV⟩ : ∃ V : Int, V = (val D : Int) := ⟨_, rfl⟩
        have hvI : ¬ V < 65536 := by omega
        rw [← hV]
        have HE : Hid (V = (val D : Int)) := hV
        clear ht hkl HV hv hV
        go_wp2
        go_ret2
        refine ⟨?_, rfl⟩
        rw [← HE.out]
        go_num
  · have HV : Hid (4294967296 ≤ val D) := hv
    rw [hD]
    have HD : Hid (D.length = 8) := hD
    clear hD hv
    go_enter Try.func50, Try.ntmps50
    go_wp2
    go_loopw [5, 6] (fun s10 s11 wr => ∃ k : Nat, s11 = .int .i64 k ∧ k ≤ 8 ∧ s10 = .int .u64 (val (D.take k) : Int) ∧ wr = w) (fun _ s11 _ => 8 - (intOf s11).toNat)
    case atStart => exact ⟨0, rfl, by omega, by simp [val], rfl⟩
    case round =>
      obtain ⟨k, rfl, hk, rfl, rfl⟩ := hrel
      by_cases hlt : k < 8
      · have hkD : k < D.length := by rw [HD.out]; exact hlt
        have c1 := cD k hkD
        have hb1 := val_take_lt D k (by omega)
        have hb2 : 256 ^ k ≤ 256 ^ 7 := Nat.pow_le_pow_right (by omega) (by omega)
        have hb3 : val (D.take k) < 72057594037927936 := by
          have : (256 : Nat) ^ 7 = 72057594037927936 := by decide
          omega
        have hvs := val_succ D k hkD
        have hc := (D[k]).toNat_lt
        generalize D[k].toNat = c at c1 hvs hc
        have hor := or_byte (val (D.take k)) c hb3 (by omega)
        generalize hx : val (D.take k) = x at hvs hor hb3
        have HS : Hid (val (D.take (k + 1)) = x * 256 + c) := hvs
        have hkI : (k : Int) < 8 := by omega
        clear hvs hb1 hb2 hx
        go_wp2
        go_roundw
        case rel => exact ⟨k + 1, by go_num, by omega, by rw [HS.out]; go_num, trivial⟩
        case measure => simp [intOf]; omega
      · have hkl : k = 8 := by omega
        have ht : val (D.take k) = val D := by rw [List.take_of_length_le (by have := HD.out; omega)]
        rw [ht]
        have hv := HV.out
        obtain ⟨V, hV⟩ : ∃ V : Int, V = (val D : Int) := ⟨_, rfl⟩
        have hvI : ¬ V < 4294967296 := by omega
        rw [← hV]
        have HE : Hid (V = (val D : Int)) := hV
        clear ht hkl HV hv hV
        go_wp2
        go_ret2
        refine ⟨?_, rfl⟩
        rw [← HE.out]
        go_num

theorem readInt_calls (w : World) (b off cap n : Nat) (hc : Cells w b off (intB n)) (hn : n < 18446744073709551616) :
    Calls Try.prog 50 #[.slice (some ⟨b, off, none⟩) (intB n).length cap] w (IntPost n w) := by
  have core : val (intB n) = n ∧ ((intB n).length = 1 ∨ ((intB n).length = 2 ∧ 256 ≤ val (intB n)) ∨ ((intB n).length = 4 ∧ 65536 ≤ val (intB n)) ∨ ((intB n).length = 8 ∧ 4294967296 ≤ val (intB n))) := by
    unfold intB
    by_cases h1 : n ≤ 255
    · rw [if_pos h1]
      exact ⟨val_be 1 n (by omega), .inl (Lib.beBytes_length _ _)⟩
    · rw [if_neg h1]
      by_cases h2 : n ≤ 65535
      · rw [if_pos h2]
        have hv := val_be 2 n (by omega)
        exact ⟨hv, .inr (.inl ⟨Lib.beBytes_length _ _, by omega⟩)⟩
      · rw [if_neg h2]
        by_cases h3 : n ≤ 4294967295
        · rw [if_pos h3]
          have hv := val_be 4 n (by omega)
          exact ⟨hv, .inr (.inr (.inl ⟨Lib.beBytes_length _ _, by omega⟩))⟩
        · rw [if_neg h3]
          have hv := val_be 8 n (by omega)
          exact ⟨hv, .inr (.inr (.inr ⟨Lib.beBytes_length _ _, by omega⟩))⟩
  have := readInt_core w b off cap (intB n) hc core.2
  rw [core.1] at this
  exact this

def EqPost (w : World) (e : Ending) (w' : World) : Prop := e = .returned (.bool true) ∧ ∃ m, w' = w.drewN m

set_option maxRecDepth 100000 in
set_option maxHeartbeats 1000000 in
theorem bytesEq_calls (ok ok' : Nat → Prop) (w : World) (vx vy : Value) (l : List UInt8) (hx : RB ok w vx l) (hy : RB ok' w vy l) (hl : l.length ≤ 1407374883553) :
    Calls Try.prog 36 #[vx, vy] w (EqPost w) := by
  obtain ⟨ax, cx, rfl, hnx, hcx⟩ := hx
  obtain ⟨ay, cy, rfl, hny, hcy⟩ := hy
  have i2 : ((l.length : Int) != (l.length : Int)) = false := by simp
  go_enter Try.func36, Try.ntmps36
  go_wp2
  go_loopw [5] (fun t wr => ∃ (k n : Nat), t = .int .i64 k ∧ k ≤ l.length ∧ wr = w.drewN n) (fun t _ => l.length - (intOf t).toNat)
  case atStart => exact ⟨0, 0, rfl, Nat.zero_le _, rfl⟩
  case round =>
    obtain ⟨k, n, rfl, hk, rfl⟩ := hrel
    by_cases hlt : k < l.length
    · obtain ⟨bx, ox, e, okx, h5⟩ := hcx (ne_nil_of_lt hlt)
      subst e
      obtain ⟨by_, oy, e, oky, h6⟩ := hcy (ne_nil_of_lt hlt)
      subst e
      have c1 := h5 k hlt
      have c2 := h6 k hlt
      have hI1 : (k : Int) < l.length := by omega
      generalize l[k] = p at c1 c2
      have hpp : ((p.toNat : Int) != (p.toNat : Int)) = false := by simp
      clear h5 h6 hcx hcy hnx hny
      go_wp2
      go_quiet (fail)
      go_wp2
      go_roundw
      case rel => exact ⟨k + 1, n + nq, by go_num, by omega, by simp⟩
      case measure => simp [intOf]; omega
    · go_wp2
      go_ret
      exact ⟨rfl, n, rfl⟩
end Go.Proofs.Qxb6604512a
