import Derived.Test.Qxb6604467aKit
import Derived.Test.Qxb6604467aOps
import Derived.RegionTactic
import Derived.BigRegion
namespace Go.Proofs.Qxb6604467a
open Go.RowKit

theorem Try.info33 : (Try.prog.info? 33).map (fun i => (i.zero, i.size, i.bytes)) = some (some (.agg #[.int .i64 0, .string ⟨#[]⟩]), 2, 24) := by kernel_rfl

def kvCell (ops : List (Int × ByteArray)) (k : Nat) (j : Nat) : Value :=
  if j / 2 < k then (if j % 2 = 0 then .int .i64 (ops.getD (j / 2) default).1 else .string (ops.getD (j / 2) default).2) else (if j % 2 = 0 then .int .i64 0 else .string ⟨#[]⟩)

theorem kvCell_step (ops : List (Int × ByteArray)) (k : Nat) (h : k < ops.length) : ∀ j, j < ops.length * 2 → (if j = k * 2 + 1 then Value.string ops[k].2 else if j = k * 2 then Value.int .i64 ops[k].1 else kvCell ops k j) = kvCell ops (k + 1) j := by
  intro j _
  have e0 : ops.getD k default = ops[k] := by simp [List.getD, h]
  by_cases h1 : j = k * 2 + 1
  · have d : j / 2 = k := by omega
    have m : j % 2 = 1 := by omega
    rw [if_pos h1]
    simp only [kvCell, d, m, e0]
    simp
  · by_cases h0 : j = k * 2
    · have d : j / 2 = k := by omega
      have m : j % 2 = 0 := by omega
      rw [if_neg h1, if_pos h0]
      simp only [kvCell, d, m, e0]
      simp
    · rw [if_neg h1, if_neg h0]
      have : j / 2 < k ↔ j / 2 < k + 1 := by omega
      simp only [kvCell, this]

theorem kvCell_at (ops : List (Int × ByteArray)) (k : Nat) (h : k < ops.length) : kvCell ops ops.length (k * 2) = .int .i64 ops[k].1 ∧ kvCell ops ops.length (k * 2 + 1) = .string ops[k].2 := by
  have e0 : ops.getD k default = ops[k] := by simp [List.getD, h]
  have d0 : k * 2 / 2 = k := by omega
  have m0 : k * 2 % 2 = 0 := by omega
  have d1 : (k * 2 + 1) / 2 = k := by omega
  have m1 : (k * 2 + 1) % 2 = 1 := by omega
  constructor
  · simp only [kvCell, d0, m0, e0, h, if_true]
  · simp only [kvCell, d1, m1, e0, h, if_true]
    simp

/-- what zzToKV hands back: a slice that reads as the same operations, in memory of its own -/
def ToKVPost (ops : List (Int × ByteArray)) (w : World) (e : Ending) (w' : World) : Prop :=
  ∃ a' b' cap', e = .returned (.slice a' ops.length cap') ∧ Below w.heap.size w w' ∧ IsOps w' a' b' 0 ops ∧ (ops ≠ [] → b' < w'.heap.size)

theorem toKV_isOps (ops : List (Int × ByteArray)) {w : World} {B : Nat} (h : w.rowIs B 33 (ops.length * 2) (kvCell ops ops.length)) : IsOps w (some ⟨B, 0, none⟩) B 0 ops := by
  refine ⟨fun _ => rfl, fun i hi => ?_⟩
  obtain ⟨e0, e1⟩ := kvCell_at ops i hi
  refine ⟨?_, ?_⟩
  · rw [Nat.zero_add, h.cell (by omega), e0]
  · rw [Nat.zero_add, h.cell (by omega), e1]

set_option maxHeartbeats 400000 in
theorem toKV_calls (a : Addr) (b off cap : Nat) (ops : List (Int × ByteArray)) (w : World) (h : IsOps w (some a) b off ops) (hlen : ops.length ≤ 1048576) (hb : ops ≠ [] → b < w.heap.size) :
    Calls Try.prog 9 #[.slice (some a) ops.length cap] w (ToKVPost ops w) := by
  obtain ⟨ha, hc⟩ := h
  have hmk := run_make_cells (P := Try.prog) 25 33 _ 2 24 Try.underlying25 Try.info33 .i64 .i64 ops.length (by omega) (by omega)
  have hnil := fun (w : World) (a : Option Addr) (n c : Nat) => Lib.run_eql_slice_nil (P := Try.prog) w 22 40 a n c 0 0 Try.underlying22
  go_enter Try.func9, Try.ntmps9
  go_wp2_with fail
  go_loopw [4] (fun i wr => ∃ k : Nat, k ≤ ops.length ∧ i = .int .i64 k ∧ Below w.heap.size w wr ∧ wr.rowIs w.heap.size 33 (ops.length * 2) (kvCell ops k)) (fun i _ => ops.length - (intOf i).toNat)
  case atStart =>
    refine ⟨0, Nat.zero_le _, rfl, (Below.refl _ _).alloc (Nat.le_refl _) _, (rowIs_made_cells w _ _ _).congr ?_⟩
    intro i _
    unfold kvCell
    simp
    have : i % 2 = 0 ∨ i % 2 = 1 := by omega
    rcases this with e | e <;> simp [e]
  case round =>
    obtain ⟨k, hk, rfl, hbel, hrow⟩ := hrel
    by_cases hlt : k < ops.length
    · have e := ha (by intro e; simp [e] at hlt)
      cases e
      obtain ⟨h0, h1⟩ := hc k hlt
      have hb := hb (by intro e; simp [e] at hlt)
      have g0 : wr.cell? ⟨b, off + k * 2, none⟩ = some (.int .i64 ops[k].1) := (hbel.cell (p := ⟨b, _, none⟩) hb).trans h0
      have g1 : wr.cell? ⟨b, off + k * 2 + 1, none⟩ = some (.string ops[k].2) := (hbel.cell (p := ⟨b, _, none⟩) hb).trans h1
      have r0 := hrow.cell (i := k * 2) (by omega)
      have r1 := hrow.cell (i := k * 2 + 1) (by omega)
      have f0 := hrow.frozen (k * 2)
      have f1 := hrow.frozen (k * 2 + 1)
      clear h0 h1 hc ha
      go_wp2
      go_region
      go_wp2
      go_roundw
      case rel =>
        exact ⟨k + 1, by omega, by go_num, ((hbel.setCell (by exact Nat.le_refl _) _).setCell (by exact Nat.le_refl _) _).drew, (((hrow.set _ _).set _ _).congr (kvCell_step ops k hlt)).drew⟩
      case measure => simp [intOf]; omega
    · go_wp2
      go_ret
      have e : k = ops.length := by omega
      subst e
      exact ⟨_, _, _, rfl, hbel, toKV_isOps ops hrow, fun _ => hrow.lt⟩

theorem toKV_nil (w : World) : Calls Try.prog 9 #[.slice none 0 0] w (ToKVPost [] w) := by
  have hnil := fun (w : World) (a : Option Addr) (n c : Nat) => Lib.run_eql_slice_nil (P := Try.prog) w 22 40 a n c 0 0 Try.underlying22
  go_enter Try.func9, Try.ntmps9
  go_wp2
  go_ret
  exact ⟨_, 0, _, rfl, Below.refl _ _, ⟨by simp, by simp⟩, by simp⟩
end Go.Proofs.Qxb6604467a
