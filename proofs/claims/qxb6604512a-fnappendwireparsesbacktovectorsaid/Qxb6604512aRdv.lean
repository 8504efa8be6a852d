import Derived.Test.Qxb6604512aVal
namespace Go.Proofs.Qxb6604512a
open Go.RowKit
set_option linter.unusedVariables false

/-- a row of bytes in memory -/
def Cells (w : World) (b off : Nat) (L : List UInt8) : Prop := ∀ i (h : i < L.length), w.cell? ⟨b, off + i, none⟩ = some (.int .u8 (L[i].toNat : Int))

/-- a number, where it ends, and that it was read -/
def VarPost (n p : Nat) (w : World) (e : Ending) (w' : World) : Prop := e = .returned (.tuple #[.int .u64 (n : Int), .int .i64 (p : Int), .bool true]) ∧ w' = w

set_option maxRecDepth 100000 in
set_option maxHeartbeats 4000000 in
theorem readVar_core (w : World) (b off cap N i f : Nat) (D : List UInt8) (c0 : w.cell? ⟨b, off + i, none⟩ = some (.int .u8 (f : Int))) (cD : ∀ k (h : k < D.length), w.cell? ⟨b, off + (i + 1 + k), none⟩ = some (.int .u8 (D[k].toNat : Int)))
    (hN : i + 1 + D.length ≤ N) (hN2 : N ≤ 1407374883553) (hcase : (f = 253 ∧ D.length = 2 ∧ 253 ≤ val D) ∨ (f = 254 ∧ D.length = 4 ∧ 65536 ≤ val D) ∨ (f = 255 ∧ D.length = 8 ∧ 4294967296 ≤ val D)) :
    Calls Try.prog 46 #[.slice (some ⟨b, off, none⟩) N cap, .int .i64 (i : Int)] w (VarPost (val D) (i + 1 + D.length) w) := by
  obtain ⟨p, hp⟩ : ∃ p : Nat, p = i + 1 := ⟨_, rfl⟩
  have hpI : (i : Int) + 1 = (p : Int) := by omega
  have hpw : IntKind.i64.wrap (p : Int) = (p : Int) := by rw [IntKind.wrap_i64]; omega
  have hiN : (i : Int) < N := by omega
  have HP : Hid (p = i + 1) := hp
  rw [← hp] at hN ⊢
  simp only [← hp] at cD
  clear hp
  rcases hcase with ⟨rfl, hD, hv⟩ | ⟨rfl, hD, hv⟩ | ⟨rfl, hD, hv⟩
  · have HV : Hid (253 ≤ val D) := hv
    rw [hD] at hN ⊢
    have HD : Hid (D.length = 2) := hD
    clear hD hv
    go_enter Try.func46, Try.ntmps46
    go_wp2
    go_loopw [10, 11] (fun s10 s11 wr => ∃ k : Nat, s11 = .int .i64 k ∧ k ≤ 2 ∧ s10 = .int .u64 (val (D.take k) : Int) ∧ wr = w) (fun _ s11 _ => 2 - (intOf s11).toNat)
    case atStart => exact ⟨0, rfl, by omega, by simp [val], rfl⟩
    case round =>
      obtain ⟨k, rfl, hk, rfl, rfl⟩ := hrel
      by_cases hlt : k < 2
      · have hkD : k < D.length := by rw [HD.out]; exact hlt
        have c1 := cD k hkD
        have hb1 := val_take_lt D k (by omega)
        have hb2 : 256 ^ k ≤ 256 ^ 7 := Nat.pow_le_pow_right (by omega) (by omega)
        have hb3 : val (D.take k) < 72057594037927936 := by
          have : (256 : Nat) ^ 7 = 72057594037927936 := by decide
          omega
        have hvs := val_succ D k hkD
        have hc := (D[k]).toNat_lt
        generalize D[k].toNat = c at c1 hvs hc
        have hor := or_byte (val (D.take k)) c hb3 (by omega)
        generalize hx : val (D.take k) = x at hvs hor hb3
        obtain ⟨q, hq⟩ : ∃ q : Nat, q = p + k := ⟨_, rfl⟩
        have hqI : (p : Int) + (k : Int) = (q : Int) := by omega
        have hqw : IntKind.i64.wrap (q : Int) = (q : Int) := by rw [IntKind.wrap_i64]; omega
        have hqN : (q : Int) < N := by omega
        rw [← hq] at c1
        have HS : Hid (val (D.take (k + 1)) = x * 256 + c) := hvs
        clear hq hvs hb1 hb2 hx
        go_wp2
        go_roundw
        case rel => exact ⟨k + 1, by go_num, by omega, by rw [HS.out]; go_num, trivial⟩
        case measure => simp [intOf]; omega
      · have hkl : k = 2 := by omega
        have ht : val (D.take k) = val D := by rw [List.take_of_length_le (by have := HD.out; omega)]
        rw [ht]
        have hv := HV.out
        obtain ⟨V, hV⟩ : ∃ V : Int, V = (val D : Int) := ⟨_, rfl⟩
        have hvI : ¬ V < 253 := by omega
        rw [← hV]
        have HE : Hid (V = (val D : Int)) := hV
        clear ht hkl HV hv hV
        go_wp2
        go_ret3
        refine ⟨?_, rfl⟩
        rw [← HE.out]
        go_num
  · have HV : Hid (65536 ≤ val D) := hv
    rw [hD] at hN ⊢
    have HD : Hid (D.length = 4) := hD
    clear hD hv
    go_enter Try.func46, Try.ntmps46
    go_wp2
    go_loopw [10, 11] (fun s10 s11 wr => ∃ k : Nat, s11 = .int .i64 k ∧ k ≤ 4 ∧ s10 = .int .u64 (val (D.take k) : Int) ∧ wr = w) (fun _ s11 _ => 4 - (intOf s11).toNat)
    case atStart => exact ⟨0, rfl, by omega, by simp [val], rfl⟩
    case round =>
      obtain ⟨k, rfl, hk, rfl, rfl⟩ := hrel
      by_cases hlt : k < 4
      · have hkD : k < D.length := by rw [HD.out]; exact hlt
        have c1 := cD k hkD
        have hb1 := val_take_lt D k (by omega)
        have hb2 : 256 ^ k ≤ 256 ^ 7 := Nat.pow_le_pow_right (by omega) (by omega)
        have hb3 : val (D.take k) < 72057594037927936 := by
          have : (256 : Nat) ^ 7 = 72057594037927936 := by decide
          omega
        have hvs := val_succ D k hkD
        have hc := (D[k]).toNat_lt
        generalize D[k].toNat = c at c1 hvs hc
        have hor := or_byte (val (D.take k)) c hb3 (by omega)
        generalize hx : val (D.take k) = x at hvs hor hb3
        obtain ⟨q, hq⟩ : ∃ q : Nat, q = p + k := ⟨_, rfl⟩
        have hqI : (p : Int) + (k : Int) = (q : Int) := by omega
        have hqw : IntKind.i64.wrap (q : Int) = (q : Int) := by rw [IntKind.wrap_i64]; omega
        have hqN : (q : Int) < N := by omega
        rw [← hq] at c1
        have HS : Hid (val (D.take (k + 1)) = x * 256 + c) := hvs
        clear hq hvs hb1 hb2 hx
        go_wp2
        go_roundw
        case rel => exact ⟨k + 1, by go_num, by omega, by rw [HS.out]; go_num, trivial⟩
        case measure => simp [intOf]; omega
      · have hkl : k = 4 := by omega
        have ht : val (D.take k) = val D := by rw [List.take_of_length_le (by have := HD.out; omega)]
        rw [ht]
        have hv := HV.out
        obtain ⟨V, hV⟩ : ∃ V : Int, V = (val D : Int) := ⟨_, rfl⟩
        have hvI : ¬ V < 65536 := by omega
        rw [← hV]
        have HE : Hid (V = (val D : Int)) := hV
        clear ht hkl HV hv hV
        go_wp2
        go_ret3
        refine ⟨?_, rfl⟩
        rw [← HE.out]
        go_num
  · have HV : Hid (4294967296 ≤ val D) := hv
    rw [hD] at hN ⊢
    have HD : Hid (D.length = 8) := hD
    clear hD hv
    go_enter Try.func46, Try.ntmps46
    go_wp2
    go_loopw [10, 11] (fun s10 s11 wr => ∃ k : Nat, s11 = .int .i64 k ∧ k ≤ 8 ∧ s10 = .int .u64 (val (D.take k) : Int) ∧ wr = w) (fun _ s11 _ => 8 - (intOf s11).toNat)
    case atStart => exact ⟨0, rfl, by omega, by simp [val], rfl⟩
    case round =>
      obtain ⟨k, rfl, hk, rfl, rfl⟩ := hrel
      by_cases hlt : k < 8
      · have hkD : k < D.length := by rw [HD.out]; exact hlt
        have c1 := cD k hkD
        have hb1 := val_take_lt D k (by omega)
        have hb2 : 256 ^ k ≤ 256 ^ 7 := Nat.pow_le_pow_right (by omega) (by omega)
        have hb3 : val (D.take k) < 72057594037927936 := by
          have : (256 : Nat) ^ 7 = 72057594037927936 := by decide
          omega
        have hvs := val_succ D k hkD
        have hc := (D[k]).toNat_lt
        generalize D[k].toNat = c at c1 hvs hc
        have hor := or_byte (val (D.take k)) c hb3 (by omega)
        generalize hx : val (D.take k) = x at hvs hor hb3
        obtain ⟨q, hq⟩ : ∃ q : Nat, q = p + k := ⟨_, rfl⟩
        have hqI : (p : Int) + (k : Int) = (q : Int) := by omega
        have hqw : IntKind.i64.wrap (q : Int) = (q : Int) := by rw [IntKind.wrap_i64]; omega
        have hqN : (q : Int) < N := by omega
        rw [← hq] at c1
        have HS : Hid (val (D.take (k + 1)) = x * 256 + c) := hvs
        clear hq hvs hb1 hb2 hx
        go_wp2
        go_roundw
        case rel => exact ⟨k + 1, by go_num, by omega, by rw [HS.out]; go_num, trivial⟩
        case measure => simp [intOf]; omega
      · have hkl : k = 8 := by omega
        have ht : val (D.take k) = val D := by rw [List.take_of_length_le (by have := HD.out; omega)]
        rw [ht]
        have hv := HV.out
        obtain ⟨V, hV⟩ : ∃ V : Int, V = (val D : Int) := ⟨_, rfl⟩
        have hvI : ¬ V < 4294967296 := by omega
        rw [← hV]
        have HE : Hid (V = (val D : Int)) := hV
        clear ht hkl HV hv hV
        go_wp2
        go_ret3
        refine ⟨?_, rfl⟩
        rw [← HE.out]
        go_num
end Go.Proofs.Qxb6604512a

