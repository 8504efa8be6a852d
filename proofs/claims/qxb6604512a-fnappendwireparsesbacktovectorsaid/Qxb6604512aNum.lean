import Derived.Test.Qxb6604512aBe
import Derived.Deep.QuietTactic
import Derived.BigQuiet
import Derived.Deep.RegionHeld3
import Derived.Deep.DeepFit
import Derived.Deep.AppendLies
namespace Go.Proofs.Qxb6604512a
open Go.RowKit
set_option linter.unusedVariables false

/-- a number's shortest bytes: 1, 2, 4 or 8 of them -/
def intB (n : Nat) : List UInt8 := if n ≤ 255 then Lib.beBytes 1 n else if n ≤ 65535 then Lib.beBytes 2 n else if n ≤ 4294967295 then Lib.beBytes 4 n else Lib.beBytes 8 n

/-- NDN's number of variable size -/
def varNum (n : Nat) : List UInt8 := if n < 253 then Lib.beBytes 1 n else if n ≤ 65535 then 253 :: Lib.beBytes 2 n else if n ≤ 4294967295 then 254 :: Lib.beBytes 4 n else 255 :: Lib.beBytes 8 n

theorem be8_cells (v : Nat) (hv : v < 256) : Lib.byteCells (Lib.beBytes 1 v) = [.int .u8 (v : Int)] := by
  have e0 : ((v % 256 : Nat) : Int) = (v : Int) := by omega
  simp only [Lib.byteCells, Lib.beBytes, Lib.leBytes, List.reverse_cons, List.reverse_nil, List.nil_append, List.map, Lib.toUInt8_mod, e0]

set_option maxRecDepth 100000 in
set_option maxHeartbeats 4000000 in
theorem nonNeg_calls (B n v : Nat) (hv : v < 18446744073709551616) (sv : Value) (xs : List Value) (w : World) (hown : w.ownsRow B 5 1 sv n xs) (hBw : B ≤ w.heap.size) (hlim : n + 8 ≤ 140737488355328) :
    Calls Try.prog 59 #[sv, .int .u64 v] w (AppPost B n xs sv (intB v) w) := by
  obtain ⟨i5, hi5, hz5, hs5, hb5⟩ := info_parts Try.info5
  by_cases h1 : v ≤ 255
  · have e : intB v = Lib.beBytes 1 v := by rw [intB, if_pos h1]
    rw [e]
    have h1I : (v : Int) ≤ 255 := by omega
    go_enter Try.func59, Try.ntmps59
    go_wp2_with (at_builtin; refine wpList_append_own_at _ rfl _ _ 45 rfl B 5 i5 (.int .u8 0) 1 1 Try.underlying45 hi5 hz5 hs5 hb5 rfl (by decide) _ _ _ rfl (hown.alloc _) ⟨w.heap.size, 0, none⟩ 1 1 [.int .u8 (v : Int)] rfl rfl ?c1 ?c2 ?c3 ?c4 ?c5 ?_)
    case c1 =>
      intro j u hj
      match j, hj with
      | 0, hj => simp at hj; subst hj; simp [Addr.add]
    case c2 => intro u hu; simp at hu; rcases hu with rfl; rfl
    case c3 => unfold maxLen; omega
    case c4 => omega
    case c5 => simp; omega
    intro v' w2 hown' hgrow hnil hloc
    have HG := Grows.of_append (v' := v') hgrow (by simpa using hloc)
    clear hgrow hnil hloc
    go_wp2
    go_ret
    refine ⟨v', rfl, ?_, HG.after ((Below.refl _ _).alloc (Nat.le_refl _) _)⟩
    rw [Lib.beBytes_length, be8_cells v (by omega)]
    exact hown'
  by_cases h2 : v ≤ 65535
  · have e : intB v = Lib.beBytes 2 v := by rw [intB, if_neg h1, if_pos h2]
    rw [e]
    clear e
    have h1I : ¬ (v : Int) ≤ 255 := by omega
    have h2I : (v : Int) ≤ 65535 := by omega
    go_enter Try.func59, Try.ntmps59
    go_wp2_with fail
    refine (be16_calls B n v (by omega) sv xs w hown hBw (by omega)).mono ?_
    rintro e w' ⟨v', rfl, hown', HG⟩
    go_wp2
    go_ret
    exact ⟨v', rfl, hown', HG⟩
  by_cases h3 : v ≤ 4294967295
  · have e : intB v = Lib.beBytes 4 v := by rw [intB, if_neg h1, if_neg h2, if_pos h3]
    rw [e]
    clear e
    have h1I : ¬ (v : Int) ≤ 255 := by omega
    have h2I : ¬ (v : Int) ≤ 65535 := by omega
    have h3I : (v : Int) ≤ 4294967295 := by omega
    go_enter Try.func59, Try.ntmps59
    go_wp2_with fail
    refine (be32_calls B n v (by omega) sv xs w hown hBw (by omega)).mono ?_
    rintro e w' ⟨v', rfl, hown', HG⟩
    go_wp2
    go_ret
    exact ⟨v', rfl, hown', HG⟩
  · have e : intB v = Lib.beBytes 8 v := by rw [intB, if_neg h1, if_neg h2, if_neg h3]
    rw [e]
    clear e
    have h1I : ¬ (v : Int) ≤ 255 := by omega
    have h2I : ¬ (v : Int) ≤ 65535 := by omega
    have h3I : ¬ (v : Int) ≤ 4294967295 := by omega
    go_enter Try.func59, Try.ntmps59
    go_wp2_with fail
    refine (be64_calls B n v (by omega) sv xs w hown hBw (by omega)).mono ?_
    rintro e w' ⟨v', rfl, hown', HG⟩
    go_wp2
    go_ret
    exact ⟨v', rfl, hown', HG⟩

theorem grows_lies {w w1 : World} {sv : Value} {g n cap : Nat} {o : Obj} (hgrow : (w.alloc o).drew.grownBy w1 sv.ownBlock) (hat : sv.ownBlock = some g ∨ g = w.heap.size + 1) : Grows w w1 sv (.slice (some ⟨g, 0, none⟩) n cap) := by
  refine Grows.after (b := (w.alloc o).drew) ((Below.refl _ _).alloc (Nat.le_refl _) _).drew ⟨hgrow, ?_⟩
  rcases hat with h | h
  · exact .inl h.symm
  · exact .inr ⟨g, rfl, by simp; omega⟩

theorem lies_size {w w1 : World} {o : Obj} {r : Option Nat} (hgrow : (w.alloc o).drew.grownBy w1 r) : w.heap.size ≤ w1.heap.size := by
  have := hgrow.size
  simp at this
  omega

theorem app_cons {B n : Nat} {xs : List Value} {sv : Value} {c : UInt8} {cI : Int} {l : List UInt8} {w w1 w' : World} {v1 v' : Value} (hc : cI = (c.toNat : Int)) (h : w'.ownsRow B 5 1 v' (n + 1 + l.length) (xs ++ [.int .u8 cI] ++ Lib.byteCells l)) (h1 : Grows w w1 sv v1) (h2 : Grows w1 w' v1 v') : AppPost B n xs sv (c :: l) w (.returned v') w' := by
  refine ⟨v', rfl, ?_, h1.trans h2⟩
  have e1 : n + (c :: l).length = n + 1 + l.length := by simp; omega
  have e2 : xs ++ Lib.byteCells (c :: l) = xs ++ [.int .u8 cI] ++ Lib.byteCells l := by simp [Lib.byteCells, hc]
  rw [e1, e2]
  exact h

set_option maxRecDepth 100000 in
set_option maxHeartbeats 4000000 in
theorem varNum_calls (B n v : Nat) (hv : v < 18446744073709551616) (sv : Value) (xs : List Value) (w : World) (hown : w.ownsRow B 5 1 sv n xs) (hBw : B ≤ w.heap.size) (hlim : n + 9 ≤ 140737488355328) :
    Calls Try.prog 60 #[sv, .int .u64 v] w (AppPost B n xs sv (varNum v) w) := by
  obtain ⟨i5, hi5, hz5, hs5, hb5⟩ := info_parts Try.info5
  by_cases h1 : v < 253
  · have e : varNum v = Lib.beBytes 1 v := by rw [varNum, if_pos h1]
    rw [e]
    clear e
    have h1I : (v : Int) < 253 := by omega
    go_enter Try.func60, Try.ntmps60
    go_wp2_with (at_builtin; refine wpList_append_own_at _ rfl _ _ 45 rfl B 5 i5 (.int .u8 0) 1 1 Try.underlying45 hi5 hz5 hs5 hb5 rfl (by decide) _ _ _ rfl (hown.alloc _) ⟨w.heap.size, 0, none⟩ 1 1 [.int .u8 (v : Int)] rfl rfl ?c1 ?c2 ?c3 ?c4 ?c5 ?_)
    case c1 =>
      intro j u hj
      match j, hj with
      | 0, hj => simp at hj; subst hj; simp [Addr.add]
    case c2 => intro u hu; simp at hu; rcases hu with rfl; rfl
    case c3 => unfold maxLen; omega
    case c4 => omega
    case c5 => simp; omega
    intro v' w2 hown' hgrow hnil hloc
    have HG := Grows.of_append (v' := v') hgrow (by simpa using hloc)
    clear hgrow hnil hloc
    go_wp2
    go_ret
    refine ⟨v', rfl, ?_, HG.after ((Below.refl _ _).alloc (Nat.le_refl _) _)⟩
    rw [Lib.beBytes_length, be8_cells v (by omega)]
    exact hown'
  by_cases h2 : v ≤ 65535
  · have e : varNum v = 253 :: Lib.beBytes 2 v := by rw [varNum, if_neg h1, if_pos h2]
    rw [e]
    clear e
    have h1I : ¬ (v : Int) < 253 := by omega
    have h2I : (v : Int) ≤ 65535 := by omega
    have hw : IntKind.u16.wrap (v : Int) = (v : Int) := by rw [IntKind.wrap_u16]; omega
    go_enter Try.func60, Try.ntmps60
    go_wp2_with fail
    go_region_held3 (fun w' => True) (trivial) (first
      | (refine step_append_lies _ (by rfl) _ _ _ (by rfl) B 5 i5 _ 1 1 Try.underlying45 hi5 hz5 hs5 hb5 rfl (by omega) sv n xs (by rfl) ((World.ownsRow.alloc hown _).drew) ⟨w.heap.size, 0, none⟩ 1 1 [.int .u8 253] (by rfl) (by rfl) (World.news_of_block (cs := #[.int .u8 253]) (t := 5) (fr := (0, 0)) (heap_alloc_new w _)) (by simp [Value.oneCell']) (by omega) (by unfold maxLen; omega) (by omega) (by simp; omega) (w.heap.size + 1) (by simp) ?_; intro g cap w1 hown1 hgrow hat1 hlt1)
      | (go_at_call 64; refine (be16_calls B (n + 1) v (by omega) _ _ _ hown1 (Nat.le_trans hBw (lies_size hgrow)) (by omega)).mono ?_; rintro e w' ⟨v', rfl, hown', HG⟩))
    go_wp2
    go_ret
    exact app_cons rfl hown' (grows_lies hgrow hat1) HG
  by_cases h3 : v ≤ 4294967295
  · have e : varNum v = 254 :: Lib.beBytes 4 v := by rw [varNum, if_neg h1, if_neg h2, if_pos h3]
    rw [e]
    clear e
    have h1I : ¬ (v : Int) < 253 := by omega
    have h2I : ¬ (v : Int) ≤ 65535 := by omega
    have h3I : (v : Int) ≤ 4294967295 := by omega
    have hw : IntKind.u32.wrap (v : Int) = (v : Int) := by rw [IntKind.wrap_u32]; omega
    go_enter Try.func60, Try.ntmps60
    go_wp2_with fail
    go_region_held3 (fun w' => True) (trivial) (first
      | (refine step_append_lies _ (by rfl) _ _ _ (by rfl) B 5 i5 _ 1 1 Try.underlying45 hi5 hz5 hs5 hb5 rfl (by omega) sv n xs (by rfl) ((World.ownsRow.alloc hown _).drew) ⟨w.heap.size, 0, none⟩ 1 1 [.int .u8 254] (by rfl) (by rfl) (World.news_of_block (cs := #[.int .u8 254]) (t := 5) (fr := (0, 0)) (heap_alloc_new w _)) (by simp [Value.oneCell']) (by omega) (by unfold maxLen; omega) (by omega) (by simp; omega) (w.heap.size + 1) (by simp) ?_; intro g cap w1 hown1 hgrow hat1 hlt1)
      | (go_at_call 65; refine (be32_calls B (n + 1) v (by omega) _ _ _ hown1 (Nat.le_trans hBw (lies_size hgrow)) (by omega)).mono ?_; rintro e w' ⟨v', rfl, hown', HG⟩))
    go_wp2
    go_ret
    exact app_cons rfl hown' (grows_lies hgrow hat1) HG
  · have e : varNum v = 255 :: Lib.beBytes 8 v := by rw [varNum, if_neg h1, if_neg h2, if_neg h3]
    rw [e]
    clear e
    have h1I : ¬ (v : Int) < 253 := by omega
    have h2I : ¬ (v : Int) ≤ 65535 := by omega
    have h3I : ¬ (v : Int) ≤ 4294967295 := by omega
    go_enter Try.func60, Try.ntmps60
    go_wp2_with fail
    go_region_held3 (fun w' => True) (trivial) (first
      | (refine step_append_lies _ (by rfl) _ _ _ (by rfl) B 5 i5 _ 1 1 Try.underlying45 hi5 hz5 hs5 hb5 rfl (by omega) sv n xs (by rfl) ((World.ownsRow.alloc hown _).drew) ⟨w.heap.size, 0, none⟩ 1 1 [.int .u8 255] (by rfl) (by rfl) (World.news_of_block (cs := #[.int .u8 255]) (t := 5) (fr := (0, 0)) (heap_alloc_new w _)) (by simp [Value.oneCell']) (by omega) (by unfold maxLen; omega) (by omega) (by simp; omega) (w.heap.size + 1) (by simp) ?_; intro g cap w1 hown1 hgrow hat1 hlt1)
      | (go_at_call 66; refine (be64_calls B (n + 1) v (by omega) _ _ _ hown1 (Nat.le_trans hBw (lies_size hgrow)) (by omega)).mono ?_; rintro e w' ⟨v', rfl, hown', HG⟩))
    go_wp2
    go_ret
    exact app_cons rfl hown' (grows_lies hgrow hat1) HG
end Go.Proofs.Qxb6604512a
