import Derived.Test.Qxb6604512aElem
namespace Go.Proofs.Qxb6604512a
open Go.RowKit
set_option linter.unusedVariables false

/-- a slice of components that is read -/
def RC (ok : Nat → Prop) (w : World) (v : Value) (cs : List (Nat × List UInt8)) : Prop :=
  ∃ a cap, v = .slice a cs.length cap ∧ (a = none → cs = [] ∧ cap = 0) ∧ (cs ≠ [] → ∃ b off, a = some ⟨b, off, none⟩ ∧ ok b ∧ ∀ i (h : i < cs.length),
    cs[i].1 < 18446744073709551616 ∧ w.cell? ⟨b, off + i * 2, none⟩ = some (.int .u64 (cs[i].1 : Int)) ∧ ∃ vv, w.cell? ⟨b, off + i * 2 + 1, none⟩ = some vv ∧ RB ok w vv cs[i].2)

theorem RC.kept {ok ok' : Nat → Prop} {w w' : World} {v : Value} {cs : List (Nat × List UInt8)} (h : RC ok w v cs) (hk : ∀ b, ok b → w'.heap[b]? = w.heap[b]?) (hok : ∀ b, ok b → ok' b) : RC ok' w' v cs := by
  obtain ⟨a, cap, rfl, h1, h2⟩ := h
  refine ⟨a, cap, rfl, h1, fun hne => ?_⟩
  obtain ⟨b, off, h3, h4, h5⟩ := h2 hne
  refine ⟨b, off, h3, hok b h4, fun i hi => ?_⟩
  obtain ⟨h6, h7, vv, h8, h9⟩ := h5 i hi
  exact ⟨h6, (World.cell?_of_block (a := ⟨b, off + i * 2, none⟩) (hk b h4)).trans h7, vv, (World.cell?_of_block (a := ⟨b, off + i * 2 + 1, none⟩) (hk b h4)).trans h8, h9.kept hk hok⟩

/-- a slice of pairs of numbers that is read -/
def RP (ok : Nat → Prop) (w : World) (v : Value) (ps : List (Nat × Nat)) : Prop :=
  ∃ a cap, v = .slice a ps.length cap ∧ (a = none → ps = [] ∧ cap = 0) ∧ (ps ≠ [] → ∃ b off, a = some ⟨b, off, none⟩ ∧ ok b ∧ ∀ i (h : i < ps.length),
    ps[i].1 < 18446744073709551616 ∧ ps[i].2 < 18446744073709551616 ∧ w.cell? ⟨b, off + i * 2, none⟩ = some (.int .u64 (ps[i].1 : Int)) ∧ w.cell? ⟨b, off + i * 2 + 1, none⟩ = some (.int .u64 (ps[i].2 : Int)))

theorem RP.kept {ok ok' : Nat → Prop} {w w' : World} {v : Value} {ps : List (Nat × Nat)} (h : RP ok w v ps) (hk : ∀ b, ok b → w'.heap[b]? = w.heap[b]?) (hok : ∀ b, ok b → ok' b) : RP ok' w' v ps := by
  obtain ⟨a, cap, rfl, h1, h2⟩ := h
  refine ⟨a, cap, rfl, h1, fun hne => ?_⟩
  obtain ⟨b, off, h3, h4, h5⟩ := h2 hne
  refine ⟨b, off, h3, hok b h4, fun i hi => ?_⟩
  obtain ⟨h6, h6', h7, h8⟩ := h5 i hi
  exact ⟨h6, h6', (World.cell?_of_block (a := ⟨b, off + i * 2, none⟩) (hk b h4)).trans h7, (World.cell?_of_block (a := ⟨b, off + i * 2 + 1, none⟩) (hk b h4)).trans h8⟩

/-- one member of a vector: its name, its pairs -/
abbrev Ent : Type := List (Nat × List UInt8) × List (Nat × Nat)

/-- a slice of members that is read -/
def RE (ok : Nat → Prop) (w : World) (v : Value) (es : List Ent) : Prop :=
  ∃ a cap, v = .slice a es.length cap ∧ (a = none → es = [] ∧ cap = 0) ∧ (es ≠ [] → ∃ b off, a = some ⟨b, off, none⟩ ∧ ok b ∧ ∀ i (h : i < es.length),
    ∃ vn vp, w.cell? ⟨b, off + i * 2, none⟩ = some vn ∧ w.cell? ⟨b, off + i * 2 + 1, none⟩ = some vp ∧ RC ok w vn es[i].1 ∧ RP ok w vp es[i].2)

theorem RE.kept {ok ok' : Nat → Prop} {w w' : World} {v : Value} {es : List Ent} (h : RE ok w v es) (hk : ∀ b, ok b → w'.heap[b]? = w.heap[b]?) (hok : ∀ b, ok b → ok' b) : RE ok' w' v es := by
  obtain ⟨a, cap, rfl, h1, h2⟩ := h
  refine ⟨a, cap, rfl, h1, fun hne => ?_⟩
  obtain ⟨b, off, h3, h4, h5⟩ := h2 hne
  refine ⟨b, off, h3, hok b h4, fun i hi => ?_⟩
  obtain ⟨vn, vp, h7, h8, h9, h10⟩ := h5 i hi
  exact ⟨vn, vp, (World.cell?_of_block (a := ⟨b, off + i * 2, none⟩) (hk b h4)).trans h7, (World.cell?_of_block (a := ⟨b, off + i * 2 + 1, none⟩) (hk b h4)).trans h8, h9.kept hk hok, h10.kept hk hok⟩

/-! the wire -/
def compsB (cs : List (Nat × List UInt8)) : List UInt8 := (cs.map fun c => elem c.1 c.2).flatten
def nameB (cs : List (Nat × List UInt8)) : List UInt8 := elem 7 (compsB cs)
def pairB (p : Nat × Nat) : List UInt8 := elem 210 (elem 212 (intB p.1) ++ elem 214 (intB p.2))
def pairsB (ps : List (Nat × Nat)) : List UInt8 := (ps.map pairB).flatten
def entB (e : Ent) : List UInt8 := elem 202 (nameB e.1 ++ pairsB e.2)
def entsB (es : List Ent) : List UInt8 := (es.map entB).flatten
def vecB (es : List Ent) : List UInt8 := elem 201 (entsB es)

theorem compsB_succ (cs : List (Nat × List UInt8)) (k : Nat) (h : k < cs.length) : compsB (cs.take (k + 1)) = compsB (cs.take k) ++ elem cs[k].1 cs[k].2 := by
  unfold compsB
  rw [List.take_succ_eq_append_getElem h, List.map_append, List.flatten_append]
  simp
theorem pairsB_succ (ps : List (Nat × Nat)) (k : Nat) (h : k < ps.length) : pairsB (ps.take (k + 1)) = pairsB (ps.take k) ++ pairB ps[k] := by
  unfold pairsB
  rw [List.take_succ_eq_append_getElem h, List.map_append, List.flatten_append]
  simp
theorem entsB_succ (es : List Ent) (k : Nat) (h : k < es.length) : entsB (es.take (k + 1)) = entsB (es.take k) ++ entB es[k] := by
  unfold entsB
  rw [List.take_succ_eq_append_getElem h, List.map_append, List.flatten_append]
  simp

theorem flat_take {α : Type} (f : α → List UInt8) (l : List α) (k : Nat) : ((l.take k).map f).flatten.length ≤ (l.map f).flatten.length := by
  have e : l = l.take k ++ l.drop k := (List.take_append_drop k l).symm
  conv => rhs; rw [e, List.map_append, List.flatten_append, List.length_append]
  omega

theorem elem_len (t : Nat) (l : List UInt8) : l.length ≤ (elem t l).length ∧ (elem t l).length ≤ l.length + 18 := by
  have h1 := varNum_len t
  have h2 := varNum_len l.length
  simp [elem]
  omega

theorem intB_len (n : Nat) : (intB n).length ≤ 8 := by
  unfold intB
  split
  · rw [Lib.beBytes_length]; omega
  · split
    · rw [Lib.beBytes_length]; omega
    · split
      · rw [Lib.beBytes_length]; omega
      · rw [Lib.beBytes_length]; omega

theorem own_below {w w' : World} {B n size : Nat} {t : TypeId} {v : Value} {xs : List Value} (h : w.ownsRow B t size v n xs) (hb : Below w.heap.size w w') : w'.ownsRow B t size v n xs :=
  h.kept (row := none) ⟨hb.os, hb.tape, hb.output, hb.size, fun k hk _ => hb.block k hk⟩ (by cases v.ownBlock <;> simp)

theorem AppPost.nil {B n : Nat} {xs : List Value} {sv : Value} {w w' : World} {v' : Value} {l1 l2 : List UInt8} (h1 : w'.ownsRow B 5 1 v' (n + l1.length + l2.length) (xs ++ Lib.byteCells l1 ++ Lib.byteCells l2)) (hg : Grows w w' sv v') : w'.ownsRow B 5 1 v' (n + (l1 ++ l2).length) (xs ++ Lib.byteCells (l1 ++ l2)) :=
  own_cast h1 (by simp; omega) (by simp [bc_append])

set_option maxHeartbeats 1000000 in
theorem intElem_calls (B n t v : Nat) (ht : t < 18446744073709551616) (hv : v < 18446744073709551616) (sv : Value) (xs : List Value) (w : World) (hown : w.ownsRow B 5 1 sv n xs) (hBw : B ≤ w.heap.size) (hlim : n ≤ 1407374883000) :
    Calls Try.prog 48 #[sv, .int .u64 t, .int .u64 v] w (AppPost B n xs sv (elem t (intB v)) w) := by
  obtain ⟨i5, hi5, hz5, hs5, hb5⟩ := info_parts Try.info5
  have hmk : (Instr.makeSlice 45 (.int .i64 0) (.int .i64 8)).run Try.prog w = .ok (.slice (some ⟨w.heap.size, 0, none⟩) 0 8) (w.alloc (.cells (madeCells (Value.int .u8 0).cells 8) 5)) := by
    have h := run_make (P := Try.prog) w 45 5 i5 _ Try.underlying45 hi5 hz5 .i64 .i64 0 8 (by omega) (by omega) (by rw [hb5]; decide) (by decide)
    rw [hs5] at h
    exact h
  have hb8 := intB_len v
  go_enter Try.func48, Try.ntmps48
  go_wp2_with fail
  have hmade := World.ownsRow_made (base := w.heap.size) (e := 5) (size := 1) w (madeCells (Value.int .u8 0).cells 8) 8 (Nat.le_refl _) (by unfold maxLen; omega) (size_madeCells _ _)
  refine (nonNeg_calls w.heap.size 0 v hv _ [] _ hmade (by simp) (by omega)).mono ?_
  rintro e w2 ⟨v2, rfl, hown2, HG2⟩
  have hb2 : Below w.heap.size w w2 := ((Below.refl _ _).alloc (Nat.le_refl _) _).trans (HG2.below (by simp) (by intro k hk; cases hk; exact Nat.le_refl _))
  rw [Nat.zero_add, List.nil_append] at hown2
  have hrb := RB.of_own hown2
  have hs2 := hb2.size
  go_wp2_with fail
  refine (elem_calls B n t ht sv xs w2 (own_below hown hb2) (by omega) v2 (intB v) (hrb.mono ?_) (by omega)).mono ?_
  · rintro b ⟨h1, h2, h3⟩
    refine ⟨fun e => ?_, h3⟩
    have := (hown.lt b e).2
    omega
  rintro e w3 ⟨v3, rfl, hown3, HG3⟩
  go_wp2
  go_ret
  exact ⟨v3, rfl, hown3, HG3.after hb2⟩

set_option maxHeartbeats 1000000 in
theorem comps_calls (B n : Nat) (sv : Value) (xs : List Value) (w : World) (hown : w.ownsRow B 5 1 sv n xs) (hBw : B ≤ w.heap.size) (vn : Value) (cs : List (Nat × List UInt8))
    (hv : RC (fun b => sv.ownBlock ≠ some b ∧ b < w.heap.size) w vn cs) (hlim : n + (compsB cs).length + 18 ≤ 1407374883553) (hlen : cs.length ≤ 1048576) :
    Calls Try.prog 58 #[vn, sv] w (AppPost B n xs sv (compsB cs) w) := by
  obtain ⟨a, cap, rfl, hnil, hc⟩ := hv
  go_enter Try.func58, Try.ntmps58
  go_wp2
  go_loopw [1, 9] (fun t1 t9 wr => ∃ k : Nat, t9 = .int .i64 k ∧ k ≤ cs.length ∧ wr.ownsRow B 5 1 t1 (n + (compsB (cs.take k)).length) (xs ++ Lib.byteCells (compsB (cs.take k))) ∧ Grows w wr sv t1) (fun _ t9 _ => cs.length - (intOf t9).toNat)
  case atStart => exact ⟨0, rfl, Nat.zero_le _, by simpa [compsB, Lib.byteCells] using hown, Grows.refl _ _⟩
  case round =>
    obtain ⟨k, rfl, hk, hown1, HG1⟩ := hrel
    obtain ⟨w0, hw0⟩ : ∃ w0, w0 = wr := ⟨_, rfl⟩
    subst hw0
    by_cases hlt : k < cs.length
    · obtain ⟨b, off, e, ⟨ok1, ok2⟩, h5⟩ := hc (ne_nil_of_lt hlt)
      subst e
      obtain ⟨h6, h7, vv, h8, h9⟩ := h5 k hlt
      have hkp : ∀ b, sv.ownBlock ≠ some b ∧ b < w.heap.size → w0.heap[b]? = w.heap[b]? := fun b hb => HG1.grown.block b hb.2 (fun e => hb.1 e.symm)
      have h7' := (World.cell?_of_block (a := ⟨b, off + k * 2, none⟩) (hkp b ⟨ok1, ok2⟩)).trans h7
      have h8' := (World.cell?_of_block (a := ⟨b, off + k * 2 + 1, none⟩) (hkp b ⟨ok1, ok2⟩)).trans h8
      have hs1 := HG1.grown.size
      obtain ⟨av, cv, rfl⟩ : ∃ av cv, vv = .slice av cs[k].2.length cv := by
        obtain ⟨av, cv, e, _⟩ := h9
        exact ⟨av, cv, e⟩
      have h9' := h9.kept (w' := w0.alloc (.cells #[.int .u64 (cs[k].1 : Int), .slice av cs[k].2.length cv] 86)) (ok' := fun b => u1.ownBlock ≠ some b ∧ b < (w0.alloc (.cells #[.int .u64 (cs[k].1 : Int), .slice av cs[k].2.length cv] 86)).heap.size) (fun b hb => (Below.heap_alloc _ _ _ (by omega)).trans (hkp b hb)) (by
        rintro b ⟨o1, o2⟩
        refine ⟨fun e => ?_, by simp; omega⟩
        rcases HG1.loc with e2 | ⟨g, e2, hg⟩
        · exact o1 (e2.symm.trans e)
        · rw [e2] at e; cases e; omega)
      have hlk : (compsB (cs.take k)).length + cs[k].2.length ≤ (compsB cs).length := by
        have e1 := flat_take (fun c : Nat × List UInt8 => elem c.1 c.2) cs (k + 1)
        have e2 := congrArg List.length (compsB_succ cs k hlt)
        have e3 := (elem_len cs[k].1 cs[k].2).1
        rw [List.length_append] at e2
        have e4 : (compsB (cs.take (k + 1))).length ≤ (compsB cs).length := e1
        omega
      have HS : Hid (compsB (cs.take (k + 1)) = compsB (cs.take k) ++ elem cs[k].1 cs[k].2) := compsB_succ cs k hlt
      obtain ⟨done, hdone⟩ : ∃ done, done = compsB (cs.take k) := ⟨_, rfl⟩
      rw [← hdone] at hown1 hlk HS
      clear hdone
      go_wp2_with fail
      refine (elem_calls B (n + done.length) cs[k].1 h6 u1 _ _ (hown1.alloc _) (by simp; omega) _ cs[k].2 h9' (by omega)).mono ?_
      rintro e w3 ⟨v3, rfl, hown3, HG3⟩
      have HG := HG1.trans (HG3.after ((Below.refl _ _).alloc (Nat.le_refl _) _))
      have hown4 := AppPost.nil hown3 HG
      rw [← HS.out] at hown4
      go_wp2
      go_roundw
      case rel => exact ⟨k + 1, by go_num, by omega, hown4, HG⟩
      case measure => simp [intOf]; omega
    · have hkl : k = cs.length := by omega
      subst hkl
      rw [List.take_length] at hown1
      go_wp2
      go_ret
      exact ⟨_, rfl, hown1, HG1⟩

set_option maxHeartbeats 1000000 in
theorem nameWire_calls (w : World) (vn : Value) (cs : List (Nat × List UInt8)) (hv : RC (fun b => b < w.heap.size) w vn cs) (hlim : (compsB cs).length + 18 ≤ 1407374883000) (hlen : cs.length ≤ 1048576) :
    Calls Try.prog 47 #[vn, .slice none 0 0] w (AppPost w.heap.size 0 [] (.slice none 0 0) (nameB cs) w) := by
  go_enter Try.func47, Try.ntmps47
  go_wp2_with fail
  refine (comps_calls w.heap.size 0 (.slice none 0 0) [] w (World.ownsRow_nil _ _ _ _) (Nat.le_refl _) vn cs (hv.kept (fun _ _ => rfl) (fun b hb => ⟨by simp [Value.ownBlock], hb⟩)) (by omega) hlen).mono ?_
  rintro e w2 ⟨v2, rfl, hown2, HG2⟩
  rw [Nat.zero_add, List.nil_append] at hown2
  have hs2 := HG2.grown.size
  go_wp2_with fail
  refine (elem_calls w.heap.size 0 7 (by omega) (.slice none 0 0) [] w2 (World.ownsRow_nil _ _ _ _) hs2 v2 (compsB cs) ((RB.of_own hown2).mono (fun b hb => ⟨by simp [Value.ownBlock], hb.2.2⟩)) (by omega)).mono ?_
  rintro e w3 ⟨v3, rfl, hown3, HG3⟩
  go_wp2
  go_ret
  exact ⟨v3, rfl, hown3, HG3.after (HG2.below (Nat.le_refl _) (by intro k hk; cases hk))⟩
end Go.Proofs.Qxb6604512a
