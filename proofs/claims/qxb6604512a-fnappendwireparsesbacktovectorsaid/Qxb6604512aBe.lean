import Derived.Test.Qxb6604512aKit
import Derived.Test.Qxb6604512aRows
import Derived.Maps.AppendAt
import Derived.Lib.Endian
import Derived.Lib.EndianBits
import Derived.Lib.UnsafeStr
namespace Go.Proofs.Qxb6604512a
open Go.RowKit
set_option linter.unusedVariables false

theorem Try.info5 : (Try.prog.info? 5).map (fun i => (i.zero, i.size, i.bytes)) = some (some (.int .u8 0), 1, 1) := by kernel_rfl

/-- what an append of bytes hands back -/
def AppPost (B n : Nat) (xs : List Value) (sv : Value) (l : List UInt8) (w : World) (e : Ending) (w' : World) : Prop :=
  ∃ v', e = .returned v' ∧ w'.ownsRow B 5 1 v' (n + l.length) (xs ++ Lib.byteCells l) ∧ Grows w w' sv v'

theorem be16_cells (v : Nat) (hv : v < 65536) : Lib.byteCells (Lib.beBytes 2 v) = [.int .u8 ((v : Int) / 256), .int .u8 ((v : Int) % 256)] := by
  have e0 : ((v % 256 : Nat) : Int) = (v : Int) % 256 := by omega
  have e1 : ((v / 256 % 256 : Nat) : Int) = (v : Int) / 256 := by omega
  simp only [Lib.byteCells, Lib.beBytes, Lib.leBytes, List.reverse_cons, List.reverse_nil, List.nil_append, List.cons_append, List.map, Lib.toUInt8_mod, e0, e1]

set_option maxRecDepth 100000 in
set_option maxHeartbeats 4000000 in
theorem be16_calls (B n v : Nat) (hv : v < 65536) (sv : Value) (xs : List Value) (w : World) (hown : w.ownsRow B 5 1 sv n xs) (hBw : B ≤ w.heap.size) (hlim : n + 2 ≤ 140737488355328) :
    Calls Try.prog 64 #[.agg #[], sv, .int .u16 v] w (AppPost B n xs sv (Lib.beBytes 2 v) w) := by
  obtain ⟨i5, hi5, hz5, hs5, hb5⟩ := info_parts Try.info5
  go_enter Try.func64, Try.ntmps64
  go_wp2_with (at_builtin; refine wpList_append_own_at _ rfl _ _ 45 rfl B 5 i5 (.int .u8 0) 1 1 Try.underlying45 hi5 hz5 hs5 hb5 rfl (by decide) _ _ _ rfl ((hown.alloc _).alloc _) ⟨w.heap.size + 1, 0, none⟩ 2 2 [.int .u8 ((v : Int) / 256), .int .u8 ((v : Int) % 256)] rfl rfl ?c1 ?c2 ?c3 ?c4 ?c5 ?_)
  case c1 =>
    intro j u hj
    match j, hj with
    | 0, hj => simp at hj; subst hj; simp [Addr.add]
    | 1, hj => simp at hj; subst hj; simp [Addr.add]
  case c2 => intro u hu; simp at hu; rcases hu with rfl | rfl <;> rfl
  case c3 => unfold maxLen; omega
  case c4 => omega
  case c5 => simp; omega
  intro v' w2 hown' hgrow hnil hloc
  have HG := Grows.of_append (v' := v') hgrow (by simpa using hloc)
  clear hgrow hnil hloc
  go_wp2
  go_ret
  refine ⟨v', rfl, ?_, HG.after (((Below.refl _ _).alloc (Nat.le_refl _) _).alloc (by simp) _)⟩
  rw [Lib.beBytes_length, be16_cells v hv]
  exact hown'

theorem be32_cells (v : Nat) (hv : v < 4294967296) : Lib.byteCells (Lib.beBytes 4 v) = [.int .u8 ((v : Int) / 16777216), .int .u8 ((v : Int) / 65536 % 256), .int .u8 ((v : Int) / 256 % 256), .int .u8 ((v : Int) % 256)] := by
  have e0 : ((v % 256 : Nat) : Int) = (v : Int) % 256 := by omega
  have e1 : ((v / 256 % 256 : Nat) : Int) = (v : Int) / 256 % 256 := by omega
  have e2 : ((v / 256 / 256 % 256 : Nat) : Int) = (v : Int) / 65536 % 256 := by omega
  have e3 : ((v / 256 / 256 / 256 % 256 : Nat) : Int) = (v : Int) / 16777216 := by omega
  simp only [Lib.byteCells, Lib.beBytes, Lib.leBytes, List.reverse_cons, List.reverse_nil, List.nil_append, List.cons_append, List.map, Lib.toUInt8_mod, e0, e1, e2, e3]

set_option maxRecDepth 100000 in
set_option maxHeartbeats 4000000 in
theorem be32_calls (B n v : Nat) (hv : v < 4294967296) (sv : Value) (xs : List Value) (w : World) (hown : w.ownsRow B 5 1 sv n xs) (hBw : B ≤ w.heap.size) (hlim : n + 4 ≤ 140737488355328) :
    Calls Try.prog 65 #[.agg #[], sv, .int .u32 v] w (AppPost B n xs sv (Lib.beBytes 4 v) w) := by
  obtain ⟨i5, hi5, hz5, hs5, hb5⟩ := info_parts Try.info5
  go_enter Try.func65, Try.ntmps65
  go_wp2_with (at_builtin; refine wpList_append_own_at _ rfl _ _ 45 rfl B 5 i5 (.int .u8 0) 1 1 Try.underlying45 hi5 hz5 hs5 hb5 rfl (by decide) _ _ _ rfl ((hown.alloc _).alloc _) ⟨w.heap.size + 1, 0, none⟩ 4 4 [.int .u8 ((v : Int) / 16777216), .int .u8 ((v : Int) / 65536 % 256), .int .u8 ((v : Int) / 256 % 256), .int .u8 ((v : Int) % 256)] rfl rfl ?c1 ?c2 ?c3 ?c4 ?c5 ?_)
  case c1 =>
    intro j u hj
    match j, hj with
    | 0, hj => simp at hj; subst hj; simp [Addr.add]
    | 1, hj => simp at hj; subst hj; simp [Addr.add]
    | 2, hj => simp at hj; subst hj; simp [Addr.add]
    | 3, hj => simp at hj; subst hj; simp [Addr.add]
  case c2 => intro u hu; simp at hu; rcases hu with rfl | rfl | rfl | rfl <;> rfl
  case c3 => unfold maxLen; omega
  case c4 => omega
  case c5 => simp; omega
  intro v' w2 hown' hgrow hnil hloc
  have HG := Grows.of_append (v' := v') hgrow (by simpa using hloc)
  clear hgrow hnil hloc
  go_wp2
  go_ret
  refine ⟨v', rfl, ?_, HG.after (((Below.refl _ _).alloc (Nat.le_refl _) _).alloc (by simp) _)⟩
  rw [Lib.beBytes_length, be32_cells v hv]
  exact hown'

theorem be64_cells (v : Nat) (hv : v < 18446744073709551616) : Lib.byteCells (Lib.beBytes 8 v) = [.int .u8 ((v : Int) / 72057594037927936), .int .u8 ((v : Int) / 281474976710656 % 256), .int .u8 ((v : Int) / 1099511627776 % 256), .int .u8 ((v : Int) / 4294967296 % 256), .int .u8 ((v : Int) / 16777216 % 256), .int .u8 ((v : Int) / 65536 % 256), .int .u8 ((v : Int) / 256 % 256), .int .u8 ((v : Int) % 256)] := by
  have e0 : ((v % 256 : Nat) : Int) = (v : Int) % 256 := by omega
  have e1 : ((v / 256 % 256 : Nat) : Int) = (v : Int) / 256 % 256 := by omega
  have e2 : ((v / 256 / 256 % 256 : Nat) : Int) = (v : Int) / 65536 % 256 := by omega
  have e3 : ((v / 256 / 256 / 256 % 256 : Nat) : Int) = (v : Int) / 16777216 % 256 := by omega
  have e4 : ((v / 256 / 256 / 256 / 256 % 256 : Nat) : Int) = (v : Int) / 4294967296 % 256 := by omega
  have e5 : ((v / 256 / 256 / 256 / 256 / 256 % 256 : Nat) : Int) = (v : Int) / 1099511627776 % 256 := by omega
  have e6 : ((v / 256 / 256 / 256 / 256 / 256 / 256 % 256 : Nat) : Int) = (v : Int) / 281474976710656 % 256 := by omega
  have e7 : ((v / 256 / 256 / 256 / 256 / 256 / 256 / 256 % 256 : Nat) : Int) = (v : Int) / 72057594037927936 := by omega
  simp only [Lib.byteCells, Lib.beBytes, Lib.leBytes, List.reverse_cons, List.reverse_nil, List.nil_append, List.cons_append, List.map, Lib.toUInt8_mod, e0, e1, e2, e3, e4, e5, e6, e7]

set_option maxRecDepth 100000 in
set_option maxHeartbeats 4000000 in
theorem be64_calls (B n v : Nat) (hv : v < 18446744073709551616) (sv : Value) (xs : List Value) (w : World) (hown : w.ownsRow B 5 1 sv n xs) (hBw : B ≤ w.heap.size) (hlim : n + 8 ≤ 140737488355328) :
    Calls Try.prog 66 #[.agg #[], sv, .int .u64 v] w (AppPost B n xs sv (Lib.beBytes 8 v) w) := by
  obtain ⟨i5, hi5, hz5, hs5, hb5⟩ := info_parts Try.info5
  go_enter Try.func66, Try.ntmps66
  go_wp2_with (at_builtin; refine wpList_append_own_at _ rfl _ _ 45 rfl B 5 i5 (.int .u8 0) 1 1 Try.underlying45 hi5 hz5 hs5 hb5 rfl (by decide) _ _ _ rfl ((hown.alloc _).alloc _) ⟨w.heap.size + 1, 0, none⟩ 8 8 [.int .u8 ((v : Int) / 72057594037927936), .int .u8 ((v : Int) / 281474976710656 % 256), .int .u8 ((v : Int) / 1099511627776 % 256), .int .u8 ((v : Int) / 4294967296 % 256), .int .u8 ((v : Int) / 16777216 % 256), .int .u8 ((v : Int) / 65536 % 256), .int .u8 ((v : Int) / 256 % 256), .int .u8 ((v : Int) % 256)] rfl rfl ?c1 ?c2 ?c3 ?c4 ?c5 ?_)
  case c1 =>
    intro j u hj
    match j, hj with
    | 0, hj => simp at hj; subst hj; simp [Addr.add]
    | 1, hj => simp at hj; subst hj; simp [Addr.add]
    | 2, hj => simp at hj; subst hj; simp [Addr.add]
    | 3, hj => simp at hj; subst hj; simp [Addr.add]
    | 4, hj => simp at hj; subst hj; simp [Addr.add]
    | 5, hj => simp at hj; subst hj; simp [Addr.add]
    | 6, hj => simp at hj; subst hj; simp [Addr.add]
    | 7, hj => simp at hj; subst hj; simp [Addr.add]
  case c2 => intro u hu; simp at hu; rcases hu with rfl | rfl | rfl | rfl | rfl | rfl | rfl | rfl <;> rfl
  case c3 => unfold maxLen; omega
  case c4 => omega
  case c5 => simp; omega
  intro v' w2 hown' hgrow hnil hloc
  have HG := Grows.of_append (v' := v') hgrow (by simpa using hloc)
  clear hgrow hnil hloc
  go_wp2
  go_ret
  refine ⟨v', rfl, ?_, HG.after (((Below.refl _ _).alloc (Nat.le_refl _) _).alloc (by simp) _)⟩
  rw [Lib.beBytes_length, be64_cells v hv]
  exact hown'

end Go.Proofs.Qxb6604512a
