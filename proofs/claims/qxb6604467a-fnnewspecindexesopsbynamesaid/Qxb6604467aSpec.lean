import Derived.Test.Qxb6604467aEnc
namespace Go.Proofs.Qxb6604467a
open Go.RowKit
open Classical
set_option linter.unusedVariables false
set_option linter.unusedSimpArgs false

/-- the number of strings that do not come again behind their place -/
def lastCount : List ByteArray → Nat
  | [] => 0
  | x :: r => (if (r.map ByteArray.toList).contains x.toList then 0 else 1) + lastCount r

theorem lastCount_cons (x : ByteArray) (r : List ByteArray) : lastCount (x :: r) = (if x ∈ r then 0 else 1) + lastCount r := by
  rw [lastCount]
  congr 1
  have e : (r.map ByteArray.toList).contains x.toList = true ↔ x ∈ r := by
    rw [List.contains_iff_mem, List.mem_map]
    exact ⟨fun ⟨y, hy, e⟩ => bytes_ext e ▸ hy, fun h => ⟨x, h, rfl⟩⟩
  by_cases h : x ∈ r
  · rw [if_pos h, if_pos (e.2 h)]
  · rw [if_neg h, if_neg (fun h' => h (e.1 h'))]

theorem lastCount_snoc (x : ByteArray) : ∀ l : List ByteArray, lastCount (l ++ [x]) = lastCount l + if x ∈ l then 0 else 1
  | [] => by simp [lastCount]
  | y :: l => by
    have ih := lastCount_snoc x l
    rw [List.cons_append, lastCount_cons, lastCount_cons, ih]
    by_cases e : y = x
    · subst e
      simp
      omega
    · have e' : ¬ x = y := fun h => e h.symm
      by_cases h1 : y ∈ l <;> by_cases h2 : x ∈ l <;> simp [h1, h2, e, e'] <;> omega

theorem lastCount_le : ∀ l : List ByteArray, lastCount l ≤ l.length
  | [] => Nat.le_refl _
  | x :: r => by
    have := lastCount_le r
    rw [lastCount_cons, List.length_cons]
    split <;> omega

/-- what the map holds behind k rounds -/
def upTo (Q : Nat → Nat) (ss : List ByteArray) : Nat → ByteArray → Option Value
  | 0 => fun _ => none
  | k + 1 => fput (upTo Q ss k) (ss.getD k ⟨#[]⟩) (.pointer (some ⟨Q k, 0, none⟩))

theorem upTo_isSome (Q : Nat → Nat) (ss : List ByteArray) (s : ByteArray) : ∀ k, k ≤ ss.length → ((upTo Q ss k s).isSome = true ↔ s ∈ ss.take k)
  | 0, _ => by simp [upTo]
  | k + 1, hk => by
    have ih := upTo_isSome Q ss s k (by omega)
    rw [List.take_succ_eq_append_getElem (by omega), upTo, List.mem_append, List.mem_singleton]
    have e : ss.getD k ⟨#[]⟩ = ss[k] := by simp [List.getD, List.getElem?_eq_getElem (show k < ss.length by omega)]
    rw [e]
    by_cases h : s = ss[k]
    · subst h
      rw [fput_same]
      exact ⟨fun _ => .inr rfl, fun _ => rfl⟩
    · rw [fput_other _ _ h, ih]
      exact ⟨.inl, fun h' => h'.resolve_right h⟩

theorem upTo_last (Q : Nat → Nat) (ss : List ByteArray) (i : Nat) (hi : i < ss.length) : ∀ k, i < k → k ≤ ss.length → (∀ j (hj : j < ss.length), i < j → j < k → ss[j] ≠ ss[i]) → upTo Q ss k ss[i] = some (.pointer (some ⟨Q i, 0, none⟩))
  | 0, h, _, _ => by omega
  | k + 1, h, hk, hne => by
    rw [upTo]
    have e : ss.getD k ⟨#[]⟩ = ss[k] := by simp [List.getD, List.getElem?_eq_getElem (show k < ss.length by omega)]
    rw [e]
    by_cases h2 : i = k
    · subst h2
      rw [fput_same]
    · rw [fput_other _ _ (fun h => hne k (by omega) (by omega) (by omega) h.symm)]
      exact upTo_last Q ss i hi k (by omega) (by omega) fun j hj h1 h3 => hne j hj h1 (by omega)

def SpecPost (Ba ns : Nat) (Q : Nat → Nat) (ss : List ByteArray) (w : World) (e : Ending) (w' : World) : Prop :=
  ∃ Bs Bm Bo, e = .returned (.pointer (some ⟨Bs, 0, none⟩)) ∧ Below w.heap.size w w' ∧ w'.cell? ⟨Bs, 0, none⟩ = some (.pointer (some ⟨Ba, 0, none⟩)) ∧ w'.cell? ⟨Bs, 1, none⟩ = some (.map (some Bm)) ∧
    w'.cell? ⟨Bs, 2, none⟩ = some (.string (zeros ns)) ∧ w'.cell? ⟨Bs, 3, none⟩ = some (.map (some Bo)) ∧ MapFn Try.prog 9 w' Bm ss.length (lastCount ss) (upTo Q ss ss.length) ∧ MapFn Try.prog 77 w' Bo 0 0 (fun _ => none)

theorem Below.mapFn {P : Program} {K : TypeId} {B : Nat} {w w' : World} {b n m : Nat} {f : ByteArray → Option Value} (hb : Below B w w') (h : MapFn P K w b n m f) (hl : b < B) : MapFn P K w' b n m f := h.of_block (hb.block b hl)

theorem MapFn.alloc {P : Program} {K : TypeId} {w : World} {b n m : Nat} {f : ByteArray → Option Value} (h : MapFn P K w b n m f) (o : Obj) : MapFn P K (w.alloc o) b n m f := h.of_block (Below.heap_alloc w o b h.lt)

set_option maxHeartbeats 1000000 in
theorem newSpec_calls (Ba ns : Nat) (ao : Option Addr) (co bo : Nat) (Q : Nat → Nat) (ss : List ByteArray) (w : World) (h : AppIs w Ba ns ao co bo Q ss) (hns : ns ≤ 1048576) (hlen : ss.length ≤ 1048576) (hsum : strSum ss ≤ 1048576) :
    Calls Try.prog 24 #[.pointer (some ⟨Ba, 0, none⟩)] w (SpecPost Ba ns Q ss w) := by
  have hmm := @run_makeMap Try.prog
  obtain ⟨⟨sa, sc, h1⟩, h2, h3, h4⟩ := h
  have hBa := World.block_lt_of_cell? w _ h2
  go_enter Try.func24, Try.ntmps24
  go_wp2_with fail
  go_loopw [12] (fun i wr => ∃ k : Nat, i = .int .i64 k ∧ k ≤ ss.length ∧ Below w.heap.size w wr ∧ MapFn Try.prog 9 wr w.heap.size k (lastCount (ss.take k)) (upTo Q ss k)) (fun i _ => ss.length - (intOf i).toNat)
  case atStart => exact ⟨0, rfl, Nat.zero_le _, (Below.refl _ _).alloc (Nat.le_refl _) _, MapFn.made _ _ _⟩
  case round =>
    obtain ⟨k, rfl, hk, hbel, hmap⟩ := hrel
    obtain ⟨w0, hw0⟩ : ∃ w0, w0 = wr := ⟨_, rfl⟩
    subst hw0
    by_cases hlt : k < ss.length
    · have e := h3 (ne_nil_of_lt hlt)
      subst e
      obtain ⟨c1, c2⟩ := h4 k hlt
      have c1' := (hbel.cell (World.block_lt_of_cell? w _ c1)).trans c1
      have c2' := (hbel.cell (World.block_lt_of_cell? w _ c2)).trans c2
      have hsk := le_strSum ss _ (List.getElem_mem hlt)
      have hml := hmap.lt
      go_wp2_with (at_mapUpdate; refine wpList_update_fn _ rfl _ _ _ 63 rfl Try.underlying9 45 Try.underlying63 w.heap.size k (lastCount (ss.take k)) (upTo Q ss k) rfl hmap (by unfold maxLen; omega) ss[k] (.pointer (some ⟨Q k, 0, none⟩)) rfl rfl (by unfold maxLen; omega) ?_; intro wU hmapU hgU)
      go_roundw
      case rel =>
        refine ⟨k + 1, by go_num, by omega, hbel.grown hgU hbel.size (fun j hj => by cases hj; exact Nat.le_refl _), ?_⟩
        have e : ss.getD k ⟨#[]⟩ = ss[k] := by simp [List.getD, List.getElem?_eq_getElem hlt]
        rw [upTo, e, List.take_succ_eq_append_getElem hlt, lastCount_snoc]
        have e2 := upTo_isSome Q ss ss[k] k (by omega)
        by_cases hm : ss[k] ∈ ss.take k
        · rw [if_pos (e2.2 hm)] at hmapU
          rw [if_pos hm]
          exact hmapU
        · rw [if_neg (fun h => hm (e2.1 h))] at hmapU
          rw [if_neg hm]
          exact hmapU
      case measure => simp [intOf]; omega
    · have hkl : k = ss.length := by omega
      subst hkl
      rw [List.take_length] at hmap
      have h1' := (hbel.cell (World.block_lt_of_cell? w _ h1)).trans h1
      have hml := hmap.lt
      go_wp2_with fail
      refine (initial_calls Ba ns sa sc w0 h1' hns).mono ?_
      rintro e w1 ⟨rfl, hb1, hs1, q1, q2⟩
      go_wp2_with fail
      refine (encode_calls _ _ ns w1 q1 q2 hns).mono ?_
      rintro e w2 ⟨rfl, hb2⟩
      have hb12 := hb1.trans (hb2.mono (by omega))
      go_wp2
      go_ret
      refine ⟨_, w.heap.size, _, rfl, ?_, by simp, by simp, by simp, by simp; rfl, ?_, ?_⟩
      · exact ((hbel.trans (hb12.mono hbel.size)).alloc (by have := hbel.size; have := hb12.size; omega) _).alloc (by have := hbel.size; have := hb12.size; simp; omega) _
      · exact ((Below.mapFn hb12 hmap hml).alloc _).alloc _
      · exact (MapFn.made _ _ _).alloc _
end Go.Proofs.Qxb6604467a
