import Derived.Test.Qxb6604467aSpell
namespace Go.Proofs.Qxb6604467a
set_option linter.unusedVariables false

/-! What 'Sources' computes, without Go -/

def idxOf (ws : List (Int × ByteArray)) (arg : ByteArray) : List Nat := (List.range ws.length).filter (fun i => decide ((W ws i).2 = arg))

def addLen (l : List Nat) (n : Nat) : List Nat := if l.contains n then l else l ++ [n]
def lensOf (ws : List (Int × ByteArray)) : List Nat := ws.foldl (fun l x => addLen l x.2.size) []

def pick (ws : List (Int × ByteArray)) (p : Nat) : List Nat → List Nat → Option (List Nat)
  | [], slot => some slot
  | i :: is, slot =>
    if (W ws i).1 = 2 ∧ 0 < p then pick ws p is slot
    else if slot ≠ [] ∧ W ws i ≠ W ws (slot.getD 0 0) then none
    else pick ws p is (slot ++ [i])

def pickLens (ws : List (Int × ByteArray)) (s : ByteArray) (p : Nat) : List Nat → List Nat → Option (List Nat)
  | [], slot => some slot
  | n :: ns, slot =>
    if s.size < p + n then pickLens ws s p ns slot
    else (pick ws p (idxOf ws (s.extract p (p + n))) slot).bind (pickLens ws s p ns)

def srcGo (ws : List (Int × ByteArray)) (s : ByteArray) : Nat → Nat → List (List Nat) → Option (List (List Nat))
  | 0, _, acc => some acc
  | fuel + 1, p, acc =>
    if p < s.size then
      (pickLens ws s p (lensOf ws) []).bind fun slot =>
        if slot = [] then some (acc ++ [slot]) else srcGo ws s fuel (p + (W ws (slot.getD 0 0)).2.size) (acc ++ [slot])
    else some acc

def src (ws : List (Int × ByteArray)) (s : ByteArray) : Option (List (List Nat)) := srcGo ws s (s.size + 1) 0 []

/-- what Sources tells of one get: none where a writer's string is empty -/
def told (ws : List (Int × ByteArray)) (s : ByteArray) : Option (List (List Nat)) := if ∃ i, i < ws.length ∧ (W ws i).2.size = 0 then none else src ws s

/-! ### the plain law: what src tells spells s -/

/-- every index of a slot stands at place p -/
def SlotOK (ws : List (Int × ByteArray)) (s : ByteArray) (p : Nat) (slot : List Nat) : Prop :=
  ∀ i ∈ slot, i < ws.length ∧ hasAt s p (W ws i).2 = true ∧ W ws i = W ws (slot.getD 0 0) ∧ (0 < p → (W ws i).1 ≠ 2)

theorem mem_idxOf {ws : List (Int × ByteArray)} {arg : ByteArray} {i : Nat} : i ∈ idxOf ws arg ↔ i < ws.length ∧ (W ws i).2 = arg := by
  simp [idxOf]

theorem idxOf_length (ws : List (Int × ByteArray)) (arg : ByteArray) : (idxOf ws arg).length ≤ ws.length := by
  have := List.length_filter_le (fun i => decide ((W ws i).2 = arg)) (List.range ws.length)
  simpa [idxOf] using this

theorem hasAt_extract (s : ByteArray) (p n : Nat) (h : p + n ≤ s.size) : hasAt s p (s.extract p (p + n)) = true := by
  simp only [hasAt, decide_eq_true_eq]
  refine ⟨by omega, ?_⟩
  rw [Lib.extract_data]
  exact List.take_prefix _ _

theorem getD_append_first (slot : List Nat) (i : Nat) (h : slot ≠ []) : (slot ++ [i]).getD 0 0 = slot.getD 0 0 := by
  cases slot with
  | nil => exact absurd rfl h
  | cons x xs => simp

theorem SlotOK.append {ws : List (Int × ByteArray)} {s : ByteArray} {p : Nat} {slot : List Nat} (h : SlotOK ws s p slot) {i : Nat} (hi : i < ws.length) (hh : hasAt s p (W ws i).2 = true) (hp : ¬ ((W ws i).1 = 2 ∧ 0 < p))
    (hs : ¬ (slot ≠ [] ∧ W ws i ≠ W ws (slot.getD 0 0))) : SlotOK ws s p (slot ++ [i]) := by
  intro j hj
  by_cases he : slot = []
  · subst he
    simp at hj
    subst hj
    exact ⟨hi, hh, by simp, fun h0 h2 => hp ⟨h2, h0⟩⟩
  · rw [getD_append_first slot i he]
    have hW : W ws i = W ws (slot.getD 0 0) := Classical.byContradiction fun hc => hs ⟨he, hc⟩
    rcases List.mem_append.1 hj with hj | hj
    · exact h j hj
    · simp at hj
      subst hj
      exact ⟨hi, hh, hW, fun h0 h2 => hp ⟨h2, h0⟩⟩

theorem pick_ok {ws : List (Int × ByteArray)} {s : ByteArray} {p : Nat} : ∀ (is slot r : List Nat), SlotOK ws s p slot → (∀ i ∈ is, i < ws.length ∧ hasAt s p (W ws i).2 = true) → pick ws p is slot = some r → SlotOK ws s p r
  | [], slot, r, h, _, e => by
    simp only [pick, Option.some.injEq] at e
    subst e
    exact h
  | i :: is, slot, r, h, hi, e => by
    unfold pick at e
    split at e
    · exact pick_ok is slot r h (fun j hj => hi j (by simp [hj])) e
    · rename_i h1
      split at e
      · cases e
      · rename_i h2
        exact pick_ok is _ r (h.append (hi i (by simp)).1 (hi i (by simp)).2 h1 h2) (fun j hj => hi j (by simp [hj])) e

theorem pickLens_ok {ws : List (Int × ByteArray)} {s : ByteArray} {p : Nat} : ∀ (ns slot r : List Nat), SlotOK ws s p slot → pickLens ws s p ns slot = some r → SlotOK ws s p r
  | [], slot, r, h, e => by
    simp only [pickLens, Option.some.injEq] at e
    subst e
    exact h
  | n :: ns, slot, r, h, e => by
    unfold pickLens at e
    split at e
    · exact pickLens_ok ns slot r h e
    · rename_i hn
      obtain ⟨r1, e1, e2⟩ := Option.bind_eq_some_iff.1 e
      refine pickLens_ok ns r1 r (pick_ok _ slot r1 h (fun i hi => ?_) e1) e2
      obtain ⟨h1, h2⟩ := mem_idxOf.1 hi
      refine ⟨h1, ?_⟩
      rw [h2]
      exact hasAt_extract s p n (by omega)

theorem hasAt_size {s a : ByteArray} {p : Nat} (h : hasAt s p a = true) : p + a.size ≤ s.size := by
  simp only [hasAt, decide_eq_true_eq] at h
  have h1 := h.2.length_le
  have e1 : s.data.toList.length = s.size := by simp
  have e2 : a.data.toList.length = a.size := by simp
  rw [List.length_drop, e1, e2] at h1
  omega

/-- what has been told so far, up to place p -/
structure SoFar (ws : List (Int × ByteArray)) (s : ByteArray) (acc : List (List Nat)) (pl : Nat → Nat) (p : Nat) : Prop where
  zero : pl 0 = 0
  last : pl acc.length = p
  le : ∀ k, k ≤ acc.length → pl k ≤ s.size
  ne : ∀ k (h : k < acc.length), acc[k] ≠ []
  slot : ∀ k (h : k < acc.length), SlotOK ws s (pl k) acc[k]
  pos : ∀ k, 0 < k → k ≤ acc.length → 0 < pl k
  step : ∀ k (h : k < acc.length), pl (k + 1) = pl k + (W ws (acc[k].getD 0 0)).2.size

theorem slotOK_first {ws : List (Int × ByteArray)} {s : ByteArray} {p : Nat} {slot : List Nat} (h : SlotOK ws s p slot) (hne : slot ≠ []) : slot.getD 0 0 < ws.length ∧ hasAt s p (W ws (slot.getD 0 0)).2 = true := by
  cases slot with
  | nil => exact absurd rfl hne
  | cons x xs =>
    have := h x (by simp)
    exact ⟨by simpa using this.1, by simpa using this.2.1⟩

theorem SoFar.snoc {ws : List (Int × ByteArray)} {s : ByteArray} {acc : List (List Nat)} {pl : Nat → Nat} {p : Nat} (h : SoFar ws s acc pl p) (hw : ∀ i, i < ws.length → 0 < (W ws i).2.size) {slot : List Nat} (hs : SlotOK ws s p slot) (hne : slot ≠ []) :
    ∃ pl', SoFar ws s (acc ++ [slot]) pl' (p + (W ws (slot.getD 0 0)).2.size) ∧ ∀ k, k ≤ acc.length → pl' k = pl k := by
  obtain ⟨f1, f2⟩ := slotOK_first hs hne
  have hsz := hasAt_size f2
  have hpos := hw _ f1
  refine ⟨fun k => if k ≤ acc.length then pl k else p + (W ws (slot.getD 0 0)).2.size, ⟨?_, ?_, ?_, ?_, ?_, ?_, ?_⟩, fun k hk => by simp [hk]⟩
  · simp [h.zero]
  · rw [if_neg (by simp)]
  · intro k hk
    split
    · exact h.le k (by assumption)
    · exact hsz
  · intro k hk
    by_cases e : k < acc.length
    · rw [List.getElem_append_left e]; exact h.ne k e
    · have e' : k = acc.length := by simp at hk; omega
      subst e'
      simpa using hne
  · intro k hk
    have hk' : k ≤ acc.length := by simp at hk; omega
    rw [if_pos hk']
    by_cases e : k < acc.length
    · rw [List.getElem_append_left e]; exact h.slot k e
    · have e' : k = acc.length := by omega
      subst e'
      rw [h.last]
      simpa using hs
  · intro k h0 hk
    split
    · exact h.pos k h0 (by assumption)
    · omega
  · intro k hk
    have hk' : k ≤ acc.length := by simp at hk; omega
    rw [if_pos hk']
    by_cases e : k < acc.length
    · rw [List.getElem_append_left e, if_pos (by omega)]; exact h.step k e
    · have e' : k = acc.length := by omega
      subst e'
      rw [if_neg (by omega), h.last]
      simp

theorem SoFar.ok_end {ws : List (Int × ByteArray)} {s : ByteArray} {acc : List (List Nat)} {pl : Nat → Nat} {p : Nat} (h : SoFar ws s acc pl p) (hp : ¬ p < s.size) : SpellOK ws s acc pl where
  zero := h.zero
  le := h.le
  none k hk e := absurd e (h.ne k hk)
  idx k hk j hj := (h.slot k hk _ (List.getElem_mem hj)).1
  same k hk j hj := (h.slot k hk _ (List.getElem_mem hj)).2.2.1
  put k hk j hj h0 := (h.slot k hk _ (List.getElem_mem hj)).2.2.2 (h.pos k h0 (by omega))
  has k hk hne := (slotOK_first (h.slot k hk) hne).2
  step k hk _ := h.step k hk
  fin _ := by
    have h1 := h.le acc.length (Nat.le_refl _)
    have h2 := h.last
    omega

theorem SoFar.ok_break {ws : List (Int × ByteArray)} {s : ByteArray} {acc : List (List Nat)} {pl : Nat → Nat} {p : Nat} (h : SoFar ws s acc pl p) (hp : p < s.size) : SpellOK ws s (acc ++ [[]]) (fun k => if k ≤ acc.length then pl k else s.size) where
  zero := by simp [h.zero]
  le k _ := by
    split
    · exact h.le k (by assumption)
    · exact Nat.le_refl _
  none k hk e := by
    by_cases e2 : k < acc.length
    · rw [List.getElem_append_left e2] at e
      exact absurd e (h.ne k e2)
    · have e' : k = acc.length := by simp at hk; omega
      subst e'
      simp [h.last, hp]
  idx k hk j hj := by
    by_cases e2 : k < acc.length
    · simp only [List.getElem_append_left e2] at hj ⊢
      exact (h.slot k e2 _ (List.getElem_mem hj)).1
    · have e' : k = acc.length := by simp at hk; omega
      subst e'
      simp at hj
  same k hk j hj := by
    by_cases e2 : k < acc.length
    · simp only [List.getElem_append_left e2] at hj ⊢
      exact (h.slot k e2 _ (List.getElem_mem hj)).2.2.1
    · have e' : k = acc.length := by simp at hk; omega
      subst e'
      simp at hj
  put k hk j hj h0 := by
    by_cases e2 : k < acc.length
    · simp only [List.getElem_append_left e2] at hj ⊢
      exact (h.slot k e2 _ (List.getElem_mem hj)).2.2.2 (h.pos k h0 (by omega))
    · have e' : k = acc.length := by simp at hk; omega
      subst e'
      simp at hj
  has k hk hne := by
    by_cases e2 : k < acc.length
    · rw [List.getElem_append_left e2] at hne ⊢
      rw [if_pos (by omega)]
      exact (slotOK_first (h.slot k e2) hne).2
    · have e' : k = acc.length := by simp at hk; omega
      subst e'
      simp at hne
  step k hk hne := by
    by_cases e2 : k < acc.length
    · rw [List.getElem_append_left e2] at hne ⊢
      rw [if_pos (by omega), if_pos (by omega)]
      exact h.step k e2
    · have e' : k = acc.length := by simp at hk; omega
      subst e'
      simp at hne
  fin _ := by rw [if_neg (by simp)]

theorem srcGo_ok {ws : List (Int × ByteArray)} {s : ByteArray} (hw : ∀ i, i < ws.length → 0 < (W ws i).2.size) : ∀ (fuel p : Nat) (acc : List (List Nat)) (pl : Nat → Nat) (r : List (List Nat)), s.size < fuel + p → SoFar ws s acc pl p → srcGo ws s fuel p acc = some r →
    (∃ pl', SpellOK ws s r pl') ∧ r.length ≤ s.size + 1
  | 0, p, acc, pl, r, hf, h, e => by
    have h1 := h.le acc.length (Nat.le_refl _)
    rw [h.last] at h1
    omega
  | fuel + 1, p, acc, pl, r, hf, h, e => by
    -- no more slots than places
    have hlen : acc.length ≤ p := by
      have : ∀ k, k ≤ acc.length → k ≤ pl k := by
        intro k
        induction k with
        | zero => intro _; omega
        | succ k ih =>
          intro hk
          have h1 := ih (by omega)
          have h2 := h.step k (by omega)
          have h3 := hw _ (slotOK_first (h.slot k (by omega)) (h.ne k (by omega))).1
          omega
      have h2 := this acc.length (Nat.le_refl _)
      rw [h.last] at h2
      exact h2
    unfold srcGo at e
    split at e
    · rename_i hp
      obtain ⟨slot, e1, e2⟩ := Option.bind_eq_some_iff.1 e
      have hso : SlotOK ws s p slot := pickLens_ok (lensOf ws) [] slot (by intro i hi; simp at hi) e1
      split at e2
      · rename_i hs0
        subst hs0
        simp only [Option.some.injEq] at e2
        subst e2
        exact ⟨⟨_, h.ok_break hp⟩, by simp; omega⟩
      · rename_i hne
        obtain ⟨pl', hP, _⟩ := h.snoc hw hso hne
        have h3 := hw _ (slotOK_first hso hne).1
        exact srcGo_ok hw fuel _ _ pl' r (by omega) hP e2
    · rename_i hp
      simp only [Option.some.injEq] at e
      subst e
      refine ⟨⟨pl, h.ok_end hp⟩, ?_⟩
      have h1 := h.le acc.length (Nat.le_refl _)
      rw [h.last] at h1
      omega

theorem src_ok {ws : List (Int × ByteArray)} {s : ByteArray} (hw : ∀ i, i < ws.length → 0 < (W ws i).2.size) {r : List (List Nat)} (e : src ws s = some r) : (∃ pl, SpellOK ws s r pl) ∧ r.length ≤ s.size + 1 :=
  srcGo_ok hw _ _ _ (fun _ => 0) r (by omega) ⟨rfl, rfl, fun _ _ => Nat.zero_le _, by simp, by simp, fun k h1 h2 => by simp at h2; omega, by simp⟩ e


/-! ### the steps, as a walk meets them -/
theorem pick_skip {ws : List (Int × ByteArray)} {p j : Nat} {is slot : List Nat} (hj : j < is.length) (h : (W ws is[j]).1 = 2 ∧ 0 < p) : pick ws p (is.drop j) slot = pick ws p (is.drop (j + 1)) slot := by
  rw [List.drop_eq_getElem_cons hj, pick, if_pos h]
theorem pick_none {ws : List (Int × ByteArray)} {p j : Nat} {is slot : List Nat} (hj : j < is.length) (h : ¬ ((W ws is[j]).1 = 2 ∧ 0 < p)) (h2 : slot ≠ [] ∧ W ws is[j] ≠ W ws (slot.getD 0 0)) : pick ws p (is.drop j) slot = none := by
  rw [List.drop_eq_getElem_cons hj, pick, if_neg h, if_pos h2]
theorem pick_snoc {ws : List (Int × ByteArray)} {p j : Nat} {is slot : List Nat} (hj : j < is.length) (h : ¬ ((W ws is[j]).1 = 2 ∧ 0 < p)) (h2 : ¬ (slot ≠ [] ∧ W ws is[j] ≠ W ws (slot.getD 0 0))) : pick ws p (is.drop j) slot = pick ws p (is.drop (j + 1)) (slot ++ [is[j]]) := by
  rw [List.drop_eq_getElem_cons hj, pick, if_neg h, if_neg h2]
theorem pick_end {ws : List (Int × ByteArray)} {p j : Nat} {is slot : List Nat} (hj : ¬ j < is.length) : pick ws p (is.drop j) slot = some slot := by
  rw [List.drop_eq_nil_of_le (by omega), pick]
theorem pickLens_skip {ws : List (Int × ByteArray)} {s : ByteArray} {p j : Nat} {ns slot : List Nat} (hj : j < ns.length) (h : s.size < p + ns[j]) : pickLens ws s p (ns.drop j) slot = pickLens ws s p (ns.drop (j + 1)) slot := by
  rw [List.drop_eq_getElem_cons hj, pickLens, if_pos h]
theorem pickLens_step {ws : List (Int × ByteArray)} {s : ByteArray} {p j : Nat} {ns slot : List Nat} (hj : j < ns.length) (h : ¬ s.size < p + ns[j]) :
    pickLens ws s p (ns.drop j) slot = (pick ws p (idxOf ws (s.extract p (p + ns[j]))) slot).bind (pickLens ws s p (ns.drop (j + 1))) := by
  rw [List.drop_eq_getElem_cons hj, pickLens, if_neg h]
theorem pickLens_end {ws : List (Int × ByteArray)} {s : ByteArray} {p j : Nat} {ns slot : List Nat} (hj : ¬ j < ns.length) : pickLens ws s p (ns.drop j) slot = some slot := by
  rw [List.drop_eq_nil_of_le (by omega), pickLens]
theorem srcGo_none {ws : List (Int × ByteArray)} {s : ByteArray} {fuel p : Nat} {acc : List (List Nat)} (hp : p < s.size) (h : pickLens ws s p (lensOf ws) [] = none) : srcGo ws s (fuel + 1) p acc = none := by
  rw [srcGo, if_pos hp, h]; rfl
theorem srcGo_break {ws : List (Int × ByteArray)} {s : ByteArray} {fuel p : Nat} {acc : List (List Nat)} (hp : p < s.size) (h : pickLens ws s p (lensOf ws) [] = some []) : srcGo ws s (fuel + 1) p acc = some (acc ++ [[]]) := by
  rw [srcGo, if_pos hp, h]; rfl
theorem srcGo_step {ws : List (Int × ByteArray)} {s : ByteArray} {fuel p : Nat} {acc : List (List Nat)} {slot : List Nat} (hp : p < s.size) (h : pickLens ws s p (lensOf ws) [] = some slot) (hne : slot ≠ []) :
    srcGo ws s (fuel + 1) p acc = srcGo ws s fuel (p + (W ws (slot.getD 0 0)).2.size) (acc ++ [slot]) := by
  rw [srcGo, if_pos hp, h, Option.bind_some, if_neg hne]
theorem srcGo_done {ws : List (Int × ByteArray)} {s : ByteArray} {fuel p : Nat} {acc : List (List Nat)} (hp : ¬ p < s.size) : srcGo ws s fuel p acc = some acc := by
  cases fuel with
  | zero => rfl
  | succ f => rw [srcGo, if_neg hp]

end Go.Proofs.Qxb6604467a
