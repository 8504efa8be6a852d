import Derived.Test.Qxb6604512aWire
import Derived.Lib.SliceRun
namespace Go.Proofs.Qxb6604512a
open Go.RowKit
set_option linter.unusedVariables false

theorem Try.info24 : (Try.prog.info? 24).map (fun i => (i.zero, i.size, i.bytes)) = some (some (.int .u64 0), 1, 8) := by kernel_rfl
theorem Try.info45 : (Try.prog.info? 45).map (fun i => (i.zero, i.size, i.bytes)) = some (some (.slice none 0 0), 1, 24) := by kernel_rfl
theorem Try.info86 : (Try.prog.info? 86).map (fun i => (i.zero, i.size, i.bytes)) = some (some (.agg #[.int .u64 0, .slice none 0 0]), 2, 32) := by kernel_rfl

def ClonePost (l : List UInt8) (w : World) (e : Ending) (w' : World) : Prop :=
  ∃ v', e = .returned v' ∧ Below w.heap.size w w' ∧ w'.ownsRow w.heap.size 5 1 v' l.length (Lib.byteCells l)

theorem own_of_row {w : World} {B base : Nat} {l : List UInt8} (h : w.rowIs B 5 l.length (fun i => .int .u8 ((l.getD i 0).toNat : Int))) (hB : base ≤ B) (hl : l.length ≤ maxLen) : w.ownsRow base 5 1 (.slice (some ⟨B, 0, none⟩) l.length l.length) l.length (Lib.byteCells l) := by
  obtain ⟨c, h1, h2, h3⟩ := h
  refine ⟨by simp [Lib.byteCells], .inr ⟨B, l.length, c, rfl, hB, h1, Nat.le_refl _, hl, by omega, ?_⟩⟩
  rw [Nat.mul_one, List.take_of_length_le (by simp; omega)]
  apply List.ext_getElem
  · simp [Lib.byteCells]; omega
  · intro i hi1 hi2
    have hi : i < l.length := by simpa [Lib.byteCells] using hi2
    have := h3 i hi
    simp [List.getD, hi] at this
    simp [Lib.byteCells]
    rw [Array.getElem?_eq_getElem (by omega)] at this
    simpa using this

set_option maxHeartbeats 1000000 in
theorem clone_calls (ok : Nat → Prop) (w : World) (v : Value) (l : List UInt8) (h : RB ok w v l) (hok : ∀ b, ok b → b < w.heap.size) (hlen : l.length ≤ 1048576) : Calls Try.prog 24 #[v] w (ClonePost l w) := by
  obtain ⟨a, cap, rfl, hn, hc⟩ := h
  have hnil := fun (w : World) (a : Option Addr) (n c : Nat) => Lib.run_eql_slice_nil (P := Try.prog) w 45 5 a n c 0 0 Try.underlying45
  have hmk := run_make_cells (P := Try.prog) 45 5 _ 1 1 Try.underlying45 Try.info5 .i64 .i64 l.length (by omega) (by omega)
  cases a with
  | none =>
    obtain ⟨rfl, rfl⟩ := hn rfl
    go_enter Try.func24, Try.ntmps24
    go_wp2
    go_ret
    exact ⟨_, rfl, Below.refl _ _, World.ownsRow_nil _ _ _ _⟩
  | some ad =>
    go_enter Try.func24, Try.ntmps24
    go_wp2_with fail
    go_loopw [4] (fun i wr => ∃ k : Nat, i = .int .i64 k ∧ k ≤ l.length ∧ Below w.heap.size w wr ∧ wr.rowIs w.heap.size 5 l.length (fun i => if i < k then .int .u8 ((l.getD i 0).toNat : Int) else .int .u8 0)) (fun i _ => l.length - (intOf i).toNat)
    case atStart =>
      refine ⟨0, rfl, Nat.zero_le _, (Below.refl _ _).alloc (Nat.le_refl _) _, ?_⟩
      have h := rowIs_made_cells w #[.int .u8 0] l.length 5
      exact h.congr fun i _ => by simp [Nat.mod_one]
    case round =>
      obtain ⟨k, rfl, hk, hbel, hrow⟩ := hrel
      by_cases hlt : k < l.length
      · obtain ⟨b, off, e, ok1, h5⟩ := hc (ne_nil_of_lt hlt)
        cases e
        have c1 := (hbel.cell (p := ⟨b, off + k, none⟩) (hok b ok1)).trans (h5 k hlt)
        have r0 := hrow.cell (i := k) hlt
        have f0 := hrow.frozen k
        have hrl := hrow.lt
        go_wp2
        go_roundw
        case rel =>
          refine ⟨k + 1, by go_num, by omega, hbel.setCell (by exact Nat.le_refl _) _, (hrow.set k _).congr fun i hi => ?_⟩
          by_cases e : i = k
          · subst e
            simp [List.getD, hlt]
          · have : i < k ↔ i < k + 1 := by omega
            simp only [if_neg e, this]
        case measure => simp [intOf]; omega
      · have hkl : k = l.length := by omega
        subst hkl
        go_wp2
        go_ret
        refine ⟨_, rfl, hbel, own_of_row (hrow.congr fun i hi => ?_) (Nat.le_refl _) (by unfold maxLen; omega)⟩
        rw [if_pos hi]

/-- a name's plain fields -/
def RT (ok : Nat → Prop) (w : World) (vt vv : Value) (cs : List (Nat × List UInt8)) : Prop :=
  ∃ a1 c1 a2 c2, vt = .slice a1 cs.length c1 ∧ vv = .slice a2 cs.length c2 ∧ (a1 = none → cs = [] ∧ c1 = 0) ∧ (cs ≠ [] → ∃ b1 b2, a1 = some ⟨b1, 0, none⟩ ∧ a2 = some ⟨b2, 0, none⟩ ∧ ok b1 ∧ ok b2 ∧ ∀ i (h : i < cs.length),
    cs[i].1 < 18446744073709551616 ∧ w.cell? ⟨b1, i, none⟩ = some (.int .u64 (cs[i].1 : Int)) ∧ ∃ x, w.cell? ⟨b2, i, none⟩ = some x ∧ RB ok w x cs[i].2)

theorem RT.kept {ok ok' : Nat → Prop} {w w' : World} {vt vv : Value} {cs : List (Nat × List UInt8)} (h : RT ok w vt vv cs) (hk : ∀ b, ok b → w'.heap[b]? = w.heap[b]?) (hok : ∀ b, ok b → ok' b) : RT ok' w' vt vv cs := by
  obtain ⟨a1, c1, a2, c2, rfl, rfl, h1, h2⟩ := h
  refine ⟨a1, c1, a2, c2, rfl, rfl, h1, fun hne => ?_⟩
  obtain ⟨b1, b2, e1, e2, o1, o2, h5⟩ := h2 hne
  refine ⟨b1, b2, e1, e2, hok _ o1, hok _ o2, fun i hi => ?_⟩
  obtain ⟨h6, h7, x, h8, h9⟩ := h5 i hi
  exact ⟨h6, (World.cell?_of_block (a := ⟨b1, i, none⟩) (hk b1 o1)).trans h7, x, (World.cell?_of_block (a := ⟨b2, i, none⟩) (hk b2 o2)).trans h8, h9.kept hk hok⟩

def SplitPost (cs : List (Nat × List UInt8)) (w : World) (e : Ending) (w' : World) : Prop :=
  ∃ vt vv, e = .returned (.tuple #[vt, vv]) ∧ Below w.heap.size w w' ∧ RT (fun b => w.heap.size ≤ b ∧ b < w'.heap.size) w' vt vv cs

set_option maxHeartbeats 1000000 in
theorem split_calls (ok : Nat → Prop) (w : World) (v : Value) (cs : List (Nat × List UInt8)) (h : RC ok w v cs) (hok : ∀ b, ok b → b < w.heap.size) (hlen : cs.length ≤ 1048576) (hval : ∀ c ∈ cs, c.2.length ≤ 1048576) : Calls Try.prog 14 #[v] w (SplitPost cs w) := by
  obtain ⟨a, cap, rfl, hn, hc⟩ := h
  have hnil := fun (w : World) (a : Option Addr) (n c : Nat) => Lib.run_eql_slice_nil (P := Try.prog) w 23 55 a n c 0 0 Try.underlying23
  have hmk1 := run_make_cells (P := Try.prog) 31 24 _ 1 8 Try.underlying31 Try.info24 .i64 .i64 cs.length (by omega) (by omega)
  have hmk2 := run_make_cells (P := Try.prog) 32 45 _ 1 24 Try.underlying32 Try.info45 .i64 .i64 cs.length (by omega) (by omega)
  cases a with
  | none =>
    obtain ⟨rfl, rfl⟩ := hn rfl
    go_enter Try.func14, Try.ntmps14
    go_wp2
    go_ret2
    exact ⟨_, _, rfl, Below.refl _ _, none, 0, none, 0, rfl, rfl, fun _ => ⟨rfl, rfl⟩, fun h => absurd rfl h⟩
  | some ad =>
    go_enter Try.func14, Try.ntmps14
    go_wp2_with fail
    go_loopw [6] (fun i wr => ∃ (k : Nat) (F : Nat → Value), i = .int .i64 k ∧ k ≤ cs.length ∧ Below w.heap.size w wr ∧ w.heap.size + 2 ≤ wr.heap.size ∧ wr.rowIs w.heap.size 24 cs.length (fun i => if i < k then .int .u64 ((cs.getD i (0, [])).1 : Int) else .int .u64 0) ∧
      wr.rowIs (w.heap.size + 1) 45 cs.length (fun i => if i < k then F i else .slice none 0 0) ∧ ∀ i (h : i < cs.length), i < k → RB (fun b => w.heap.size + 2 ≤ b ∧ b < wr.heap.size) wr (F i) cs[i].2) (fun i _ => cs.length - (intOf i).toNat)
    case atStart =>
      refine ⟨0, fun _ => .slice none 0 0, rfl, Nat.zero_le _, ((Below.refl _ _).alloc (Nat.le_refl _) _).alloc (by simp) _, by simp, ?_, ?_, by intro i h h'; omega⟩
      · refine (World.rowIs.alloc (rowIs_made_cells w #[.int .u64 0] cs.length 24) _).congr fun i _ => ?_
        simp [Nat.mod_one]
      · have h := rowIs_made_cells (w.alloc (.cells (madeCells #[.int .u64 0] cs.length) 24)) #[.slice none 0 0] cs.length 45
        rw [show (w.alloc (.cells (madeCells #[.int .u64 0] cs.length) 24)).heap.size = w.heap.size + 1 by simp] at h
        exact h.congr fun i _ => by simp [Nat.mod_one]
    case round =>
      obtain ⟨k, F, rfl, hk, hbel, hsz, hrow1, hrow2, hF⟩ := hrel
      obtain ⟨w0, hw0⟩ : ∃ w0, w0 = wr := ⟨_, rfl⟩
      subst hw0
      by_cases hlt : k < cs.length
      · obtain ⟨b, off, e, ok1, h5⟩ := hc (ne_nil_of_lt hlt)
        cases e
        obtain ⟨h6, h7, x, h8, h9⟩ := h5 k hlt
        have hb1 := hok b ok1
        have c1 := (hbel.cell (p := ⟨b, off + k * 2, none⟩) hb1).trans h7
        have c2 := (hbel.cell (p := ⟨b, off + k * 2 + 1, none⟩) hb1).trans h8
        have r0 := hrow1.cell (i := k) hlt
        have f0 := hrow1.frozen k
        have hv := hval _ (List.getElem_mem hlt)
        have hbelA := hbel.setCell (p := ⟨w.heap.size, k, none⟩) (by exact Nat.le_refl _) (.int .u64 (cs[k].1 : Int))
        have c2A := (hbelA.cell (p := ⟨b, off + k * 2 + 1, none⟩) hb1).trans h8
        have h9A := h9.kept (w' := w0.setCell ⟨w.heap.size, k, none⟩ (.int .u64 (cs[k].1 : Int))) (ok' := ok) (fun b hb => hbelA.block b (hok b hb)) (fun _ h => h)
        have hrow1A := (hrow1.set k (.int .u64 (cs[k].1 : Int)))
        have hrow2A := hrow2.setOther (a := ⟨w.heap.size, k, none⟩) (by simp) (.int .u64 (cs[k].1 : Int))
        have hFA : ∀ i (h : i < cs.length), i < k → RB (fun b => w.heap.size + 2 ≤ b ∧ b < w0.heap.size) (w0.setCell ⟨w.heap.size, k, none⟩ (.int .u64 (cs[k].1 : Int))) (F i) cs[i].2 := fun i h h' => (hF i h h').kept (fun b hb => Below.heap_setCell _ _ _ _ (by simp; omega)) (fun _ h => h)
        have hszA : (w0.setCell ⟨w.heap.size, k, none⟩ (.int .u64 (cs[k].1 : Int))).heap.size = w0.heap.size := by simp
        go_wp2_with fail
        generalize w0.setCell ⟨w.heap.size, k, none⟩ (.int .u64 (cs[k].1 : Int)) = wA at hbelA c2A h9A hrow1A hrow2A hFA hszA ⊢
        refine (clone_calls ok wA x cs[k].2 h9A (fun b hb => by have := hok b hb; omega) hv).mono ?_
        rintro e w2 ⟨v', rfl, hbel2, hown2⟩
        have hs2 := hbel2.size
        have hrow1B := hrow1A.of_block (hbel2.block _ (by omega))
        have hrow2B := hrow2A.of_block (hbel2.block _ (by omega))
        have hFB : ∀ i (h : i < cs.length), i < k → RB (fun b => w.heap.size + 2 ≤ b ∧ b < w2.heap.size) w2 (F i) cs[i].2 := fun i h h' => (hFA i h h').kept (fun b hb => hbel2.block b (by omega)) (fun b hb => by omega)
        have hnew : RB (fun b => w.heap.size + 2 ≤ b ∧ b < w2.heap.size) w2 v' cs[k].2 := (RB.of_own hown2).mono (fun b hb => by omega)
        have hbelB : Below w.heap.size w w2 := hbelA.trans (hbel2.mono (by omega))
        have r1 := hrow2B.cell (i := k) hlt
        have f1 := hrow2B.frozen k
        have hl2 := hrow2B.lt
        obtain ⟨va, vc, rfl⟩ : ∃ va vc, v' = .slice va cs[k].2.length vc := by
          obtain ⟨va, vc, e, _⟩ := hnew
          exact ⟨va, vc, e⟩
        clear hown2 hFA hF hrow1A hrow2A hrow1 hrow2 c1 c2 r0 f0 c2A h9A
        go_wp2
        go_roundw
        case rel =>
          refine ⟨k + 1, fun i => if i = k then .slice va cs[k].2.length vc else F i, by go_num, by omega, hbelB.setCell (by exact Nat.le_succ _) _, by simp; omega, (hrow1B.setOther (by simp) _).congr fun i hi => ?_, (hrow2B.set k _).congr fun i hi => ?_, fun i hi hik => ?_⟩
          · by_cases e : i = k
            · subst e
              simp [List.getD, hlt]
            · have : i < k ↔ i < k + 1 := by omega
              simp only [if_neg e, this]
          · by_cases e : i = k
            · subst e
              simp
            · have : i < k ↔ i < k + 1 := by omega
              simp only [if_neg e, this]
          · have hk2 : ∀ b, w.heap.size + 2 ≤ b ∧ b < w2.heap.size → (w2.setCell ⟨w.heap.size + 1, k, none⟩ (.slice va cs[k].2.length vc)).heap[b]? = w2.heap[b]? := fun b hb => Below.heap_setCell _ _ _ _ (by simp; omega)
            dsimp only
            by_cases e : i = k
            · subst e
              rw [if_pos rfl]
              exact hnew.kept hk2 (fun b hb => by simp; omega)
            · rw [if_neg e]
              exact (hFB i hi (by omega)).kept hk2 (fun b hb => by simp; omega)
        case measure => simp [intOf]; omega
      · have hkl : k = cs.length := by omega
        subst hkl
        go_wp2
        go_ret2
        refine ⟨_, _, rfl, hbel, some ⟨w.heap.size, 0, none⟩, cs.length, some ⟨w.heap.size + 1, 0, none⟩, cs.length, rfl, rfl, by simp, fun hne => ⟨w.heap.size, w.heap.size + 1, rfl, rfl, by omega, by omega, fun i hi => ?_⟩⟩
        obtain ⟨b, off, e, ok1, h5⟩ := hc hne
        refine ⟨(h5 i hi).1, ?_, F i, ?_, (hF i hi hi).mono (fun b hb => by omega)⟩
        · rw [hrow1.cell hi, if_pos hi]
          simp [List.getD, hi]
        · rw [hrow2.cell hi, if_pos hi]

def NamePost (ok : Nat → Prop) (cs : List (Nat × List UInt8)) (w : World) (e : Ending) (w' : World) : Prop :=
  ∃ v', e = .returned v' ∧ Below w.heap.size w w' ∧ RC (fun b => ok b ∨ (w.heap.size ≤ b ∧ b < w'.heap.size)) w' v' cs

set_option maxHeartbeats 1000000 in
theorem name_calls (ok : Nat → Prop) (w : World) (vt vv : Value) (cs : List (Nat × List UInt8)) (h : RT ok w vt vv cs) (hok : ∀ b, ok b → b < w.heap.size) (hlen : cs.length ≤ 1048576) : Calls Try.prog 33 #[vt, vv] w (NamePost ok cs w) := by
  obtain ⟨a1, c1, a2, c2, rfl, rfl, hn, hc⟩ := h
  have hnil := fun (w : World) (a : Option Addr) (n c : Nat) => Lib.run_eql_slice_nil (P := Try.prog) w 31 24 a n c 0 0 Try.underlying31
  have hmk := run_make_cells (P := Try.prog) 61 86 _ 2 32 Try.underlying61 Try.info86 .i64 .i64 cs.length (by omega) (by omega)
  cases a1 with
  | none =>
    obtain ⟨rfl, rfl⟩ := hn rfl
    go_enter Try.func33, Try.ntmps33
    go_wp2
    go_ret
    exact ⟨_, rfl, Below.refl _ _, none, 0, rfl, fun _ => ⟨rfl, rfl⟩, fun h => absurd rfl h⟩
  | some ad =>
    go_enter Try.func33, Try.ntmps33
    go_wp2_with fail
    go_loopw [6] (fun i wr => ∃ (k : Nat) (F : Nat → Value), i = .int .i64 k ∧ k ≤ cs.length ∧ Below w.heap.size w wr ∧ wr.rowIs w.heap.size 86 (cs.length * 2) F ∧ ∀ i (h : i < cs.length), i < k → F (i * 2) = .int .u64 (cs[i].1 : Int) ∧ RB ok w (F (i * 2 + 1)) cs[i].2) (fun i _ => cs.length - (intOf i).toNat)
    case atStart =>
      exact ⟨0, _, rfl, Nat.zero_le _, (Below.refl _ _).alloc (Nat.le_refl _) _, rowIs_made_cells w _ (cs.length * 2) 86, by intro i h h'; omega⟩
    case round =>
      obtain ⟨k, F, rfl, hk, hbel, hrow, hF⟩ := hrel
      by_cases hlt : k < cs.length
      · obtain ⟨b1, b2, e1, e2, ok1, ok2, h5⟩ := hc (ne_nil_of_lt hlt)
        cases e1
        subst e2
        obtain ⟨h6, h7, x, h8, h9⟩ := h5 k hlt
        have d1 := (hbel.cell (p := ⟨b1, k, none⟩) (hok _ ok1)).trans h7
        have d2 := (hbel.cell (p := ⟨b2, k, none⟩) (hok _ ok2)).trans h8
        have r0 := hrow.cell (i := k * 2) (by omega)
        have r1 := hrow.cell (i := k * 2 + 1) (by omega)
        have f0 := hrow.frozen (k * 2)
        have f1 := hrow.frozen (k * 2 + 1)
        have hrl := hrow.lt
        obtain ⟨va, vc, rfl⟩ : ∃ va vc, x = .slice va cs[k].2.length vc := by
          obtain ⟨va, vc, e, _⟩ := h9
          exact ⟨va, vc, e⟩
        go_wp2
        go_roundw
        case rel =>
          refine ⟨k + 1, _, by go_num, by omega, (hbel.setCell (by exact Nat.le_refl _) _).setCell (by exact Nat.le_refl _) _, (hrow.set _ _).set _ _, fun i hi hik => ?_⟩
          by_cases e : i = k
          · subst e
            rw [if_neg (by omega), if_pos rfl, if_pos rfl]
            exact ⟨rfl, h9⟩
          · rw [if_neg (by omega), if_neg (by omega), if_neg (by omega), if_neg (by omega)]
            exact hF i hi (by omega)
        case measure => simp [intOf]; omega
      · have hkl : k = cs.length := by omega
        subst hkl
        go_wp2
        go_ret
        refine ⟨_, rfl, hbel, some ⟨w.heap.size, 0, none⟩, cs.length, rfl, by simp, fun hne => ⟨w.heap.size, 0, rfl, .inr ⟨Nat.le_refl _, hrow.lt⟩, fun i hi => ?_⟩⟩
        obtain ⟨b1, b2, e1, e2, ok1, ok2, h5⟩ := hc hne
        obtain ⟨g1, g2⟩ := hF i hi hi
        refine ⟨(h5 i hi).1, ?_, F (i * 2 + 1), ?_, g2.kept (fun b hb => hbel.block b (hok b hb)) (fun b hb => .inl hb)⟩
        · rw [Nat.zero_add, hrow.cell (by omega), g1]
        · rw [Nat.zero_add, hrow.cell (by omega)]
end Go.Proofs.Qxb6604512a
