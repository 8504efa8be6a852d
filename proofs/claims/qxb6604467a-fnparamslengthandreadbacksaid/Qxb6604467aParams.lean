import Derived.Test.Qxb6604467aList
namespace Go.Proofs.Qxb6604467a
open Go.RowKit
set_option linter.unusedVariables false

theorem Try.info9 : (Try.prog.info? 9).map (fun i => (i.zero, i.size, i.bytes)) = some (some (.string ⟨#[]⟩), 1, 16) := by kernel_rfl

def col (x : ByteArray) : ByteArray := ⟨#[58]⟩ ++ x
theorem bl_col (x : ByteArray) : bl (col x) = 58 :: bl x := by
  unfold bl col
  rw [ByteArray.data_append]
  simp

theorem size_col (x : ByteArray) : (col x).size = x.size + 1 := by
  have h := congrArg List.length (bl_col x)
  simp [bl] at h
  exact h

def paramsText (nm : ByteArray) (ss : List ByteArray) : List UInt8 :=
  if ss = [] then bl nm ++ [32, 104, 97, 115, 32, 110, 111, 110, 101] else listText (ss.map fun s => 58 :: bl s)

theorem joinTail_len (sep : List UInt8) : ∀ r : List (List UInt8), (Lib.joinTail sep r).length = r.length * sep.length + (r.map List.length).sum
  | [] => by simp [Lib.joinTail]
  | x :: r => by
    have ih := joinTail_len sep r
    have e : Lib.joinTail sep (x :: r) = sep ++ x ++ Lib.joinTail sep r := by simp [Lib.joinTail]
    rw [e, List.length_append, List.length_append, ih, List.length_cons, List.map_cons, List.sum_cons, Nat.add_mul]
    omega

theorem colSum : ∀ ss : List ByteArray, (((ss.map col).map bl).map List.length).sum = strSum ss + ss.length
  | [] => rfl
  | x :: r => by
    have ih := colSum r
    have e : strSum (x :: r) = x.size + strSum r := rfl
    have h2 : (bl (col x)).length = x.size + 1 := by rw [bl_col]; simp [bl]
    rw [List.map_cons, List.map_cons, List.map_cons, List.sum_cons, ih, e, h2, List.length_cons]
    omega

theorem strSum_append (a b : List ByteArray) : strSum (a ++ b) = strSum a + strSum b := by simp [strSum]

theorem map_col_bl (ss : List ByteArray) : (ss.map col).map bl = ss.map fun s => 58 :: bl s := by
  rw [List.map_map]
  exact List.map_congr_left fun s _ => bl_col s

/-- list, called with the names behind their colons, at the head of a row -/
theorem list_cols (B : Nat) (ss : List ByteArray) (w : World) (hne : ss ≠ []) (hr : w.rowIs B 9 ss.length (fun i => .string (col (ss.getD i ⟨#[]⟩)))) (hl : ss.length ≤ 1048576) (hsum : strSum ss ≤ 1048576) :
    Calls Try.prog 36 #[.slice (some ⟨B, 0, none⟩) ss.length ss.length] w (TextPost (listText (ss.map fun s => 58 :: bl s)) w) := by
  have hlt := hr.lt
  obtain ⟨ys, z, rfl⟩ : ∃ ys z, ss = ys ++ [z] := ⟨ss.dropLast, ss.getLast hne, (List.dropLast_concat_getLast hne).symm⟩
  have hz := hr.cell (i := ys.length) (by simp)
  have hgz : (ys ++ [z]).getD ys.length ⟨#[]⟩ = z := by simp [List.getD]
  rw [hgz] at hz
  rw [strSum_append] at hsum
  have hs1 : strSum [z] = z.size := by simp [strSum]
  cases ys with
  | nil =>
    have := list_one B 0 1 (col z) w hz hlt (Nat.le_refl _) (by rw [size_col]; omega)
    rw [bl_col] at this
    simpa [listText, tailText] using this
  | cons x r =>
    have hcell : ∀ j y, (col x :: r.map col)[j]? = some y → w.cell? ⟨B, 0 + j, none⟩ = some (.string y) := by
      intro j y hy
      rw [← List.map_cons, List.getElem?_map] at hy
      obtain ⟨s, hs, rfl⟩ := Option.map_eq_some_iff.1 hy
      have hj : j < (x :: r).length := (List.getElem?_eq_some_iff.1 hs).1
      rw [Nat.zero_add, hr.cell (i := j) (by simp at hj ⊢; omega)]
      have : (x :: r ++ [z]).getD j ⟨#[]⟩ = s := by
        rw [List.getD, List.getElem?_append_left hj, hs]; rfl
      rw [this]
    have h := list_more B 0 (x :: r ++ [z]).length (x :: r).length (x :: r ++ [z]).length (by simp) (col x) (r.map col) (col z) w (by simp) hcell (by rw [Nat.zero_add]; exact hz) hlt (by simp) (by unfold maxLen; omega) (by simp at hl ⊢; omega)
      (by
        rw [List.map_cons, Lib.join_cons, List.length_append, joinTail_len, colSum]
        have h2 : (bl (col x)).length = x.size + 1 := by rw [bl_col]; simp [bl]
        have e : strSum (x :: r) = x.size + strSum r := rfl
        simp at hl ⊢
        omega) (by rw [size_col]; omega)
    have e : (x :: r ++ [z]).map (fun s => 58 :: bl s) = (col x :: r.map col).map bl ++ [bl (col z)] := by
      rw [← List.map_cons, map_col_bl, bl_col, List.map_append]
      rfl
    rw [e]
    exact h

set_option maxHeartbeats 400000 in
theorem params_none (nm : ByteArray) (Bo : Nat) (w : World) (h : OpIs w Bo nm []) (hn : nm.size ≤ 1048576) :
    Calls Try.prog 31 #[.pointer (some ⟨Bo, 0, none⟩)] w (TextPost (paramsText nm []) w) := by
  obtain ⟨ap, cp, bp, Q, h1, h2, _, _⟩ := h
  have i7 : ¬ 9223372036854775807 < nm.size + 9 := by omega
  go_enter Try.func31, Try.ntmps31
  go_wp2
  go_ret
  refine ⟨?_, Below.refl _ _⟩
  have e : (nm ++ ⟨#[32, 104, 97, 115, 32, 110, 111, 110, 101]⟩ : ByteArray) = ⟨(paramsText nm []).toArray⟩ := by
    apply ByteArray.ext
    rw [ByteArray.data_append]
    simp [paramsText, bl]
  exact congrArg (fun s : ByteArray => Ending.returned (.string s)) e

structure PInv (ss : List ByteArray) (w wr : World) (k : Nat) : Prop where
  bel : Below w.heap.size w wr
  row : wr.rowIs w.heap.size 9 ss.length (fun i => if i < k then .string (col (ss.getD i ⟨#[]⟩)) else .string ⟨#[]⟩)

set_option maxHeartbeats 400000 in
theorem params_some (nm : ByteArray) (ss : List ByteArray) (Bo : Nat) (w : World) (h : OpIs w Bo nm ss) (hne : ss ≠ []) (hl : ss.length ≤ 1048576) (hsum : strSum ss ≤ 1048576) :
    Calls Try.prog 31 #[.pointer (some ⟨Bo, 0, none⟩)] w (TextPost (paramsText nm ss) w) := by
  have hmk := run_make_cells (P := Try.prog) 41 9 _ 1 16 Try.underlying41 Try.info9 .i64 .i64 ss.length (by omega) (by omega)
  obtain ⟨ap, cp, bp, Q, h1, h2, h3, h4⟩ := h
  have e := h3 hne
  subst e
  have hl0 : 0 < ss.length := by cases h5 : ss with | nil => exact absurd h5 hne | cons => simp
  have hz : ((ss.length : Int) == 0) = false := beq_eq_false_iff_ne.2 (by omega)
  have hBo := World.block_lt_of_cell? w _ h2
  go_enter Try.func31, Try.ntmps31
  go_wp2
  go_loopw [28] (fun i wr => ∃ k : Nat, i = .int .i64 k ∧ k ≤ ss.length ∧ PInv ss w wr k) (fun i _ => ss.length - (intOf i).toNat)
  case atStart =>
    refine ⟨0, rfl, Nat.zero_le _, ⟨(Below.refl _ _).alloc (Nat.le_refl _) _, ?_⟩⟩
    have h := rowIs_made_cells w #[.string ⟨#[]⟩] ss.length 9
    exact h.congr fun i _ => by simp [Nat.mod_one]
  case round =>
    obtain ⟨k, rfl, hk, hinv⟩ := hrel
    by_cases hlt : k < ss.length
    · obtain ⟨c0, c1⟩ := h4 k hlt
      have c0' := (hinv.bel.cell (p := ⟨bp, k, none⟩) (World.block_lt_of_cell? w _ c0)).trans c0
      have c1' := (hinv.bel.cell (p := ⟨Q k, 2, none⟩) (World.block_lt_of_cell? w _ c1)).trans c1
      have hsk := le_strSum ss _ (List.getElem_mem hlt)
      have i7 : ¬ 9223372036854775807 < 1 + ss[k].size := by omega
      have r0 := hinv.row.cell (i := k) hlt
      have f0 := hinv.row.frozen k
      go_wp2
      go_roundw
      case rel =>
        refine ⟨k + 1, by go_num, by omega, ⟨hinv.bel.setCell (by exact Nat.le_refl _) _, (hinv.row.set k _).congr fun i hi => ?_⟩⟩
        by_cases e : i = k
        · subst e
          have : ss.getD i ⟨#[]⟩ = ss[i] := by simp [List.getD, hlt]
          rw [if_pos rfl, if_pos (by omega), this]
          rfl
        · rw [if_neg e]
          have : i < k ↔ i < k + 1 := by omega
          simp only [this]
      case measure => simp [intOf]; omega
    · have hkl : k = ss.length := by omega
      subst hkl
      have hrow := hinv.row.congr (g := fun i => .string (col (ss.getD i ⟨#[]⟩))) fun i hi => if_pos hi
      go_wp2_with fail
      refine (list_cols w.heap.size ss wr hne hrow hl hsum).mono ?_
      rintro e w' ⟨rfl, hb'⟩
      have hsz := hrow.lt
      go_wp2
      go_ret
      refine ⟨?_, hinv.bel.trans (hb'.mono (by omega))⟩
      rw [paramsText, if_neg hne]
      rfl

theorem params_calls (nm : ByteArray) (ss : List ByteArray) (Bo : Nat) (w : World) (h : OpIs w Bo nm ss) (hl : ss.length ≤ 1048576) (hsum : strSum ss ≤ 1048576) (hn : nm.size ≤ 1048576) :
    Calls Try.prog 31 #[.pointer (some ⟨Bo, 0, none⟩)] w (TextPost (paramsText nm ss) w) := by
  by_cases hne : ss = []
  · subst hne
    exact params_none nm Bo w h hn
  · exact params_some nm ss Bo w h hne hl hsum

set_option maxHeartbeats 400000 in
theorem zzparams_calls (nm : ByteArray) (ss : List ByteArray) (Bo : Nat) (w : World) (h : OpIs w Bo nm ss) (hl : ss.length ≤ 1048576) (hsum : strSum ss ≤ 1048576) (hn : nm.size ≤ 1048576) :
    Calls Try.prog 15 #[.pointer (some ⟨Bo, 0, none⟩)] w (TextPost (paramsText nm ss) w) := by
  go_enter Try.func15, Try.ntmps15
  go_wp2_with fail
  refine (params_calls nm ss Bo w h hl hsum hn).mono ?_
  rintro e w' ⟨rfl, hb'⟩
  go_wp2
  go_ret
  exact ⟨rfl, hb'⟩
end Go.Proofs.Qxb6604467a
