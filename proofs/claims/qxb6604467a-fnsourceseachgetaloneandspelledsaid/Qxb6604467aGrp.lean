import Derived.Test.Qxb6604467aSource
import Derived.Deep.AppendLies
namespace Go.Proofs.Qxb6604467a
open Go.RowKit
set_option linter.unusedVariables false

/-- the map of places and the row of lengths, while they are built -/
structure Grp (wr : World) (base mb : Nat) (lv : Value) (ls : List Nat) (n m : Nat) (f : ByteArray → Option Value) (ix : ByteArray → List Nat) : Prop where
  map : MapFn Try.prog 9 wr mb n m f
  lt : mb < base
  lens : OwnsNats wr base lv ls
  grp : ∀ s, (f s = none ∧ ix s = []) ∨ ∃ v, f s = some v ∧ OwnsNats wr base v (ix s) ∧ ix s ≠ []
  ap1 : ∀ s v, f s = some v → v.ownBlock ≠ lv.ownBlock
  ap2 : ∀ s s' v v', s ≠ s' → f s = some v → f s' = some v' → v.ownBlock ≠ v'.ownBlock

theorem ownBlock_some {w : World} {base : Nat} {v : Value} {zs : List Nat} (h : OwnsNats w base v zs) (hne : zs ≠ []) : ∃ g, v.ownBlock = some g ∧ base ≤ g ∧ g < w.heap.size := by
  have hl : 0 < zs.length := by cases h3 : zs with | nil => exact absurd h3 hne | cons => simp
  obtain ⟨g, cap, rfl, h1, h2⟩ := World.ownsRow.form h hl
  exact ⟨g, rfl, h1, h2⟩

theorem Grp.some_block {wr : World} {base mb : Nat} {lv : Value} {ls : List Nat} {n m : Nat} {f : ByteArray → Option Value} {ix : ByteArray → List Nat} (h : Grp wr base mb lv ls n m f ix) {s : ByteArray} {v : Value} (hs : f s = some v) : OwnsNats wr base v (ix s) ∧ ∃ g, v.ownBlock = some g ∧ base ≤ g ∧ g < wr.heap.size := by
  rcases h.grp s with ⟨h1, _⟩ | ⟨v', h1, h2, h3⟩
  · rw [hs] at h1; cases h1
  · rw [hs] at h1
    cases h1
    exact ⟨h2, ownBlock_some h2 h3⟩

theorem Grp.of_blocks {wr w' : World} {base mb : Nat} {lv : Value} {ls : List Nat} {n m : Nat} {f : ByteArray → Option Value} {ix : ByteArray → List Nat} (h : Grp wr base mb lv ls n m f ix) (hb : ∀ k, mb ≤ k → k < wr.heap.size → w'.heap[k]? = wr.heap[k]?) : Grp w' base mb lv ls n m f ix where
  map := h.map.of_block (hb mb (Nat.le_refl _) h.map.lt)
  lt := h.lt
  lens := ownsRow_of_blocks h.lens fun k hk hlt => hb k (by have := h.lt; omega) hlt
  grp s := by
    rcases h.grp s with h1 | ⟨v, h1, h2, h3⟩
    · exact .inl h1
    · exact .inr ⟨v, h1, ownsRow_of_blocks h2 fun k hk hlt => hb k (by have := h.lt; omega) hlt, h3⟩
  ap1 := h.ap1
  ap2 := h.ap2

/-- 'lengths = append(lengths, n)' -/
theorem Grp.lens_append {wr w' : World} {base mb : Nat} {lv lv' : Value} {ls : List Nat} {n m x : Nat} {f : ByteArray → Option Value} {ix : ByteArray → List Nat} (h : Grp wr base mb lv ls n m f ix)
    (hown : w'.ownsRow base 3 1 lv' (ls.length + 1) (natVals ls ++ [.int .i64 (x : Int)])) (hg : wr.grownBy w' lv.ownBlock) (hloc : lv'.ownBlock = lv.ownBlock ∨ lv'.ownBlock = some wr.heap.size) : Grp w' base mb lv' (ls ++ [x]) n m f ix where
  map := h.map.of_block (hg.block mb h.map.lt (fun e => by have := (h.lens.lt mb e.symm).1; have := h.lt; omega))
  lt := h.lt
  lens := by show w'.ownsRow _ _ _ _ _ _; simpa [natVals] using hown
  grp s := by
    rcases h.grp s with h1 | ⟨v, h1, h2, h3⟩
    · exact .inl h1
    · exact .inr ⟨v, h1, World.ownsRow.kept h2 hg (.inr (h.ap1 s v h1)), h3⟩
  ap1 s v hs := by
    rcases hloc with e | e
    · rw [e]; exact h.ap1 s v hs
    · obtain ⟨_, g, e1, _, e3⟩ := h.some_block hs
      rw [e, e1]
      intro e4
      cases e4
      omega
  ap2 := h.ap2

/-- the numbers at a key, nil where there are none -/
theorem Grp.at {wr : World} {base mb : Nat} {lv : Value} {ls : List Nat} {n m : Nat} {f : ByteArray → Option Value} {ix : ByteArray → List Nat} (h : Grp wr base mb lv ls n m f ix) (s : ByteArray) : OwnsNats wr base ((f s).getD (.slice none 0 0)) (ix s) := by
  rcases h.grp s with ⟨h1, h2⟩ | ⟨v, h1, h2, _⟩
  · rw [h1, h2]; exact World.ownsRow_nil _ _ _ _
  · rw [h1]; exact h2

/-- 'm[s] = append(m[s], i)' -/
theorem Grp.put {wr w1 w2 : World} {base mb : Nat} {lv v' : Value} {ls : List Nat} {n m m' i g : Nat} {f : ByteArray → Option Value} {ix : ByteArray → List Nat} (h : Grp wr base mb lv ls n m f ix) (s : ByteArray)
    (hown : w1.ownsRow base 3 1 v' ((ix s).length + 1) (natVals (ix s) ++ [.int .i64 (i : Int)])) (hg : wr.grownBy w1 ((f s).getD (.slice none 0 0)).ownBlock) (hv : v'.ownBlock = some g) (hloc : ((f s).getD (.slice none 0 0)).ownBlock = some g ∨ g = wr.heap.size)
    (hmap : MapFn Try.prog 9 w2 mb (n + 1) m' (fput f s v')) (hg2 : w1.grownBy w2 (some mb)) : Grp w2 base mb lv ls (n + 1) m' (fput f s v') (fun s' => if s' = s then ix s ++ [i] else ix s') := by
  have hlt := h.lt
  have own2 : ∀ {u : Value} {zs : List Nat}, OwnsNats w1 base u zs → OwnsNats w2 base u zs := by
    intro u zs hu
    refine World.ownsRow.kept hu hg2 ?_
    cases hu' : u.ownBlock with
    | none => exact .inl rfl
    | some k =>
      refine .inr fun e => ?_
      cases e
      have := (hu.lt mb hu').1
      omega
  -- what lies apart from the key's row is kept
  have keep : ∀ {u : Value} {zs : List Nat}, OwnsNats wr base u zs → (∀ k, (f s) = some k → u.ownBlock ≠ k.ownBlock) → OwnsNats w2 base u zs := by
    intro u zs hu hne
    refine own2 (World.ownsRow.kept hu hg ?_)
    cases hfs : f s with
    | none => exact Classical.em (u.ownBlock = none)
    | some k => exact .inr (hne k hfs)
  have apart : ∀ {u : Value} {zs : List Nat}, OwnsNats wr base u zs → (∀ k, (f s) = some k → u.ownBlock ≠ k.ownBlock) → u.ownBlock ≠ v'.ownBlock := by
    intro u zs hu hne e
    rw [hv] at e
    rcases hloc with e1 | e1
    · cases hfs : f s with
      | none => rw [hfs] at e1; simp [Value.ownBlock] at e1
      | some k =>
        rw [hfs] at e1
        exact hne k hfs (e.trans e1.symm)
    · have := (hu.lt g e).2
      omega
  refine ⟨hmap, h.lt, keep h.lens (fun k hk e => h.ap1 s k hk e.symm), fun s' => ?_, fun s' u hu => ?_, fun s1 s2 u1 u2 hne h1 h2 => ?_⟩
  · by_cases e : s' = s
    · subst e
      refine .inr ⟨v', fput_same _ _ _, ?_, by simp⟩
      rw [if_pos rfl]
      refine own2 ?_
      show w1.ownsRow _ _ _ _ _ _
      simpa [natVals] using hown
    · rw [fput_other f v' e, if_neg e]
      rcases h.grp s' with h1 | ⟨u, h1, h2, h3⟩
      · exact .inl h1
      · exact .inr ⟨u, h1, keep h2 (fun k hk => h.ap2 s' s u k e h1 hk), h3⟩
  · by_cases e : s' = s
    · subst e
      rw [fput_same] at hu
      cases hu
      exact fun e2 => apart h.lens (fun k hk e => h.ap1 s' k hk e.symm) e2.symm
    · rw [fput_other f v' e] at hu
      exact h.ap1 s' u hu
  · by_cases e1 : s1 = s
    · subst e1
      rw [fput_same] at h1
      cases h1
      rw [fput_other f v' (fun e => hne e.symm)] at h2
      exact fun e2 => apart (h.some_block h2).1 (fun k hk => h.ap2 s2 s1 u2 k (fun e => hne e.symm) h2 hk) e2.symm
    · rw [fput_other f v' e1] at h1
      by_cases e2 : s2 = s
      · subst e2
        rw [fput_same] at h2
        cases h2
        exact apart (h.some_block h1).1 (fun k hk => h.ap2 s1 s2 u1 k hne h1 hk)
      · rw [fput_other f v' e2] at h2
        exact h.ap2 s1 s2 u1 u2 hne h1 h2

/-! ### what the lists are, round by round -/
theorem lensOf_snoc (ws : List (Int × ByteArray)) (k : Nat) (h : k < ws.length) : lensOf (ws.take (k + 1)) = addLen (lensOf (ws.take k)) ws[k].2.size := by
  unfold lensOf
  rw [List.take_succ_eq_append_getElem h, List.foldl_append]
  rfl

theorem W_take {ws : List (Int × ByteArray)} {k i : Nat} (h : i < k) (hk : k ≤ ws.length) : W (ws.take k) i = W ws i := by
  simp [W, List.getD, h]

theorem idxOf_take (ws : List (Int × ByteArray)) (k : Nat) (h : k ≤ ws.length) (s : ByteArray) : idxOf (ws.take k) s = (List.range k).filter (fun i => decide ((W ws i).2 = s)) := by
  unfold idxOf
  rw [List.length_take, Nat.min_eq_left h]
  refine List.filter_congr fun i hi => ?_
  rw [W_take (by simpa using hi) h]

theorem idxOf_snoc (ws : List (Int × ByteArray)) (k : Nat) (h : k < ws.length) (s : ByteArray) : idxOf (ws.take (k + 1)) s = if s = (W ws k).2 then idxOf (ws.take k) (W ws k).2 ++ [k] else idxOf (ws.take k) s := by
  rw [idxOf_take ws (k + 1) h, List.range_succ, List.filter_append]
  by_cases e : s = (W ws k).2
  · subst e
    rw [if_pos rfl, idxOf_take ws k (by omega)]
    simp
  · rw [if_neg e, idxOf_take ws k (by omega)]
    simp
    exact fun e2 => e e2.symm

theorem addLen_length (l : List Nat) (n : Nat) : (addLen l n).length ≤ l.length + 1 := by
  unfold addLen
  split <;> simp

theorem lensOf_length (ws : List (Int × ByteArray)) (k : Nat) (h : k ≤ ws.length) : (lensOf (ws.take k)).length ≤ k := by
  induction k with
  | zero => simp [lensOf]
  | succ k ih =>
    rw [lensOf_snoc ws k h]
    have := ih (by omega)
    have := addLen_length (lensOf (ws.take k)) ws[k].2.size
    omega

theorem lensOf_mem (ws : List (Int × ByteArray)) (B : Nat) (hB : ∀ i, i < ws.length → (W ws i).2.size ≤ B) (k : Nat) (h : k ≤ ws.length) : ∀ n ∈ lensOf (ws.take k), n ≤ B := by
  induction k with
  | zero => simp [lensOf]
  | succ k ih =>
    rw [lensOf_snoc ws k h]
    intro n hn
    unfold addLen at hn
    split at hn
    · exact ih (by omega) n hn
    · rcases List.mem_append.1 hn with hn | hn
      · exact ih (by omega) n hn
      · simp at hn
        subst hn
        have := hB k h
        rwa [← W_eq h] at this

end Go.Proofs.Qxb6604467a
