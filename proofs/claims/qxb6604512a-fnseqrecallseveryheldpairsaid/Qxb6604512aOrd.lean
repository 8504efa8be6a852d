import Derived.Test.Qxb6604512aWf
import Derived.Lib.BytesEntry
namespace Go.Proofs.Qxb6604512a
open Go.RowKit
set_option linter.unusedVariables false

theorem cmpB_cons (a b : UInt8) (r s : List UInt8) : cmpB (a :: r) (b :: s) = if a = b then cmpB r s else if a.toNat < b.toNat then -1 else 1 := by rw [cmpB]

theorem cmpB_self : ∀ x : List UInt8, cmpB x x = 0
  | [] => rfl
  | a :: r => by rw [cmpB_cons, if_pos rfl, cmpB_self r]

theorem u8_ne {a b : UInt8} (h : a ≠ b) : a.toNat ≠ b.toNat := fun e => h (UInt8.toNat_inj.1 e)

theorem cmpB_anti : ∀ x y : List UInt8, cmpB y x = - cmpB x y
  | [], [] => rfl
  | [], _ :: _ => rfl
  | _ :: _, [] => rfl
  | a :: r, b :: s => by
    rw [cmpB_cons, cmpB_cons]
    by_cases h : a = b
    · rw [if_pos h, if_pos h.symm]
      exact cmpB_anti r s
    · have := u8_ne h
      rw [if_neg h, if_neg (Ne.symm h)]
      split <;> split <;> omega

theorem cmpB_eq : ∀ x y : List UInt8, x.length = y.length → cmpB x y = 0 → x = y
  | [], [], _, _ => rfl
  | [], _ :: _, h, _ => by simp at h
  | _ :: _, [], h, _ => by simp at h
  | a :: r, b :: s, h, h2 => by
    rw [cmpB_cons] at h2
    by_cases e : a = b
    · rw [if_pos e] at h2
      rw [e, cmpB_eq r s (by simpa using h) h2]
    · rw [if_neg e] at h2
      split at h2 <;> omega

theorem cmpB_trans : ∀ x y z : List UInt8, x.length = y.length → y.length = z.length → cmpB x y < 0 → cmpB y z < 0 → cmpB x z < 0
  | [], [], [], _, _, h, _ => h
  | [], [], _ :: _, _, h, _, _ => by simp at h
  | [], _ :: _, _, h, _, _, _ => by simp at h
  | _ :: _, [], _, h, _, _, _ => by simp at h
  | _ :: _, _ :: _, [], _, h, _, _ => by simp at h
  | a :: r, b :: s, c :: t, h1, h2, h3, h4 => by
    rw [cmpB_cons] at h3 h4 ⊢
    by_cases e1 : a = b
    · subst e1
      rw [if_pos rfl] at h3
      by_cases e2 : a = c
      · subst e2
        rw [if_pos rfl] at h4 ⊢
        exact cmpB_trans r s t (by simpa using h1) (by simpa using h2) h3 h4
      · rw [if_neg e2] at h4 ⊢
        exact h4
    · have n1 := u8_ne e1
      rw [if_neg e1] at h3
      by_cases e2 : b = c
      · subst e2
        rw [if_neg e1]
        exact h3
      · have n2 := u8_ne e2
        rw [if_neg e2] at h4
        have hab : a.toNat < b.toNat := by
          by_cases h : a.toNat < b.toNat
          · exact h
          · rw [if_neg h] at h3; omega
        have hbc : b.toNat < c.toNat := by
          by_cases h : b.toNat < c.toNat
          · exact h
          · rw [if_neg h] at h4; omega
        have hac : a ≠ c := fun e => by subst e; omega
        rw [if_neg hac, if_pos (by omega)]
        omega

theorem cmpB_compareBytes : ∀ x y : List UInt8, x.length = y.length → Lib.compareBytes x y = cmpB x y
  | [], [], _ => rfl
  | [], _ :: _, h => by simp at h
  | _ :: _, [], h => by simp at h
  | a :: r, b :: s, h => by
    rw [cmpB_cons]
    unfold Lib.compareBytes
    by_cases e : a = b
    · subst e
      rw [if_neg (UInt8.lt_irrefl a), if_neg (UInt8.lt_irrefl a), if_pos rfl, cmpB_compareBytes r s (by simpa using h)]
    · have n := u8_ne e
      rw [if_neg e]
      by_cases l : a < b
      · rw [if_pos l, if_pos (UInt8.lt_iff_toNat_lt.1 l)]
      · have l' : ¬ a.toNat < b.toNat := fun h => l (UInt8.lt_iff_toNat_lt.2 h)
        rw [if_neg l, if_neg l', if_pos (UInt8.lt_iff_toNat_lt.2 (by omega))]

theorem cmpC_self (x : Nat × List UInt8) : cmpC x x = 0 := by
  rw [cmpC, if_pos rfl, if_pos rfl, cmpB_self]

theorem cmpC_anti (x y : Nat × List UInt8) : cmpC y x = - cmpC x y := by
  unfold cmpC
  have := cmpB_anti x.2 y.2
  by_cases e1 : x.1 = y.1
  · by_cases e2 : x.2.length = y.2.length
    · rw [if_pos e1.symm, if_pos e1, if_pos e2.symm, if_pos e2]; exact this
    · rw [if_pos e1.symm, if_pos e1, if_neg (Ne.symm e2), if_neg e2]
      split <;> split <;> omega
  · rw [if_neg (Ne.symm e1), if_neg e1]
    split <;> split <;> omega

theorem cmpC_eq (x y : Nat × List UInt8) (h : cmpC x y = 0) : x = y := by
  unfold cmpC at h
  by_cases e1 : x.1 = y.1
  · rw [if_pos e1] at h
    by_cases e2 : x.2.length = y.2.length
    · rw [if_pos e2] at h
      exact Prod.ext e1 (cmpB_eq _ _ e2 h)
    · rw [if_neg e2] at h
      split at h <;> omega
  · rw [if_neg e1] at h
    split at h <;> omega

theorem cmpC_lt {x y : Nat × List UInt8} : cmpC x y < 0 ↔ x.1 < y.1 ∨ (x.1 = y.1 ∧ (x.2.length < y.2.length ∨ (x.2.length = y.2.length ∧ cmpB x.2 y.2 < 0))) := by
  unfold cmpC
  by_cases e1 : x.1 = y.1
  · rw [if_pos e1]
    by_cases e2 : x.2.length = y.2.length
    · rw [if_pos e2]; constructor
      · intro h; exact .inr ⟨e1, .inr ⟨e2, h⟩⟩
      · rintro (h | ⟨_, h | ⟨_, h⟩⟩) <;> first | exact h | omega
    · rw [if_neg e2]
      split <;> constructor <;> intro h <;> omega
  · rw [if_neg e1]
    split <;> constructor <;> intro h <;> omega

theorem cmpC_trans {x y z : Nat × List UInt8} (h1 : cmpC x y < 0) (h2 : cmpC y z < 0) : cmpC x z < 0 := by
  rw [cmpC_lt] at *
  rcases h1 with h1 | ⟨a1, h1 | ⟨b1, c1⟩⟩ <;> rcases h2 with h2 | ⟨a2, h2 | ⟨b2, c2⟩⟩ <;>
    first | (refine .inl ?_; omega) | (refine .inr ⟨by omega, .inl ?_⟩; omega) | exact .inr ⟨by omega, .inr ⟨by omega, cmpB_trans _ _ _ b1 b2 c1 c2⟩⟩

theorem cmpN_cons (a b : Nat × List UInt8) (r s : List (Nat × List UInt8)) : cmpN (a :: r) (b :: s) = if cmpC a b = 0 then cmpN r s else cmpC a b := by rw [cmpN]

theorem cmpN_self : ∀ x, cmpN x x = 0
  | [] => rfl
  | a :: r => by rw [cmpN_cons, if_pos (cmpC_self a), cmpN_self r]

theorem cmpN_anti : ∀ x y, cmpN y x = - cmpN x y
  | [], [] => rfl
  | [], _ :: _ => rfl
  | _ :: _, [] => rfl
  | a :: r, b :: s => by
    rw [cmpN_cons, cmpN_cons, cmpC_anti a b]
    by_cases h : cmpC a b = 0
    · rw [if_pos h, if_pos (by omega)]; exact cmpN_anti r s
    · rw [if_neg h, if_neg (by omega)]

theorem cmpN_trans : ∀ x y z, cmpN x y < 0 → cmpN y z < 0 → cmpN x z < 0
  | [], [], _, h, _ => absurd h (by simp [cmpN])
  | [], _ :: _, [], _, h => absurd h (by simp [cmpN])
  | [], _ :: _, _ :: _, h, _ => h
  | _ :: _, [], _, h, _ => absurd h (by simp [cmpN])
  | _ :: _, _ :: _, [], _, h => absurd h (by simp [cmpN])
  | a :: r, b :: s, c :: t, h1, h2 => by
    rw [cmpN_cons] at h1 h2 ⊢
    by_cases e1 : cmpC a b = 0
    · obtain rfl := cmpC_eq a b e1
      rw [if_pos e1] at h1
      by_cases e2 : cmpC a c = 0
      · rw [if_pos e2] at h2 ⊢
        exact cmpN_trans r s t h1 h2
      · rw [if_neg e2] at h2 ⊢
        exact h2
    · rw [if_neg e1] at h1
      by_cases e2 : cmpC b c = 0
      · obtain rfl := cmpC_eq b c e2
        rw [if_neg e1]
        exact h1
      · rw [if_neg e2] at h2
        have := cmpC_trans h1 h2
        rw [if_neg (by omega)]
        exact this

theorem WF.names {es : List Ent} (h : WF es) : ∀ j i (hij : i < j) (hj : j < es.length), cmpN (es[i]'(by omega)).1 es[j].1 < 0
  | 0, i, hij, _ => by omega
  | j + 1, i, hij, hj => by
    have h1 := h.1 j hj
    by_cases e : i = j
    · subst e; exact h1
    · exact cmpN_trans _ _ _ (WF.names h j i (by omega) (by omega)) h1

theorem WF.boots {es : List Ent} (h : WF es) (k : Nat) (hk : k < es.length) : ∀ j i (hij : i < j) (hj : j < es[k].2.length), (es[k].2[i]'(by omega)).1 < es[k].2[j].1
  | 0, i, hij, _ => by omega
  | j + 1, i, hij, hj => by
    have h1 := h.2 k hk j hj
    by_cases e : i = j
    · subst e; exact h1
    · exact Nat.lt_trans (WF.boots h k hk j i (by omega) (by omega)) h1
end Go.Proofs.Qxb6604512a
