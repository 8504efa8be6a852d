import Derived.Test.Qxb6604467aStrs
namespace Go.Proofs.Qxb6604467a
open Go.RowKit
set_option linter.unusedVariables false

theorem Try.info72 : (Try.prog.info? 72).map (fun i => (i.zero, i.size, i.bytes)) = some (some (.pointer none), 1, 8) := by kernel_rfl

/-- an operation with its parameters' names, in memory -/
def OpIs (w : World) (Bo : Nat) (nm : ByteArray) (ss : List ByteArray) : Prop :=
  ∃ ap cp bp, ∃ Q : Nat → Nat, w.cell? ⟨Bo, 2, none⟩ = some (.string nm) ∧ w.cell? ⟨Bo, 3, none⟩ = some (.slice ap ss.length cp) ∧ (ss ≠ [] → ap = some ⟨bp, 0, none⟩) ∧
    ∀ i (h : i < ss.length), w.cell? ⟨bp, i, none⟩ = some (.pointer (some ⟨Q i, 0, none⟩)) ∧ w.cell? ⟨Q i, 2, none⟩ = some (.string ss[i])

def BuildOpPost (nm : ByteArray) (ss : List ByteArray) (w : World) (e : Ending) (w' : World) : Prop :=
  ∃ Bo, e = .returned (.pointer (some ⟨Bo, 0, none⟩)) ∧ Below w.heap.size w w' ∧ OpIs w' Bo nm ss

set_option maxHeartbeats 400000 in
theorem buildOp_nil (nm : ByteArray) (w : World) : Calls Try.prog 16 #[.string nm, .slice none 0 0] w (BuildOpPost nm [] w) := by
  have hnil := fun (w : World) (a : Option Addr) (n c : Nat) => run_neq_slice_nil_any (P := Try.prog) w 41 9 a n c 0 0 Try.underlying41
  go_enter Try.func16, Try.ntmps16
  go_wp2
  go_ret
  refine ⟨w.heap.size, rfl, (Below.refl _ _).alloc (Nat.le_refl _) _, none, 0, 0, fun _ => 0, ?_, ?_, by simp, by simp⟩
  · simp
  · simp

structure BInv (ss : List ByteArray) (w wr : World) (k : Nat) : Prop where
  bel : Below w.heap.size w wr
  size : wr.heap.size = w.heap.size + 1 + k
  row : wr.rowIs w.heap.size 72 ss.length (fun i => if i < k then .pointer (some ⟨w.heap.size + 1 + i, 0, none⟩) else .pointer none)
  par : ∀ i (h : i < ss.length), i < k → wr.cell? ⟨w.heap.size + 1 + i, 2, none⟩ = some (.string ss[i])

theorem binv_next {ss : List ByteArray} {w wr : World} {k : Nat} (h : BInv ss w wr k) (hlt : k < ss.length) (c : Array Value) (hc : c[2]? = some (.string ss[k])) :
    BInv ss w ((wr.setCell ⟨w.heap.size, k, none⟩ (.pointer (some ⟨wr.heap.size, 0, none⟩))).alloc (.cells c 81)) (k + 1) where
  bel := (h.bel.setCell (by exact Nat.le_refl _) _).alloc (by have := h.size; simp; omega) _
  size := by have := h.size; simp; omega
  row := by
    refine ((h.row.set k _).alloc _).congr fun i hi => ?_
    have hs := h.size
    by_cases e : i = k
    · subst e
      simp [hs]
    · rw [if_neg e]
      have : i < k ↔ i < k + 1 := by omega
      simp only [this]
  par i hi hk := by
    have hs := h.size
    by_cases e : i = k
    · subst e
      rw [← hs]
      rw [World.cell?_alloc_at (hn := by simp)]
      exact hc
    · rw [World.cell?_alloc_lt (h := by simp; omega), World.cell?_setCell_other (h := by simp <;> omega)]
      exact h.par i hi (by omega)

set_option maxHeartbeats 400000 in
theorem buildOp_some (nm : ByteArray) (a : Addr) (b off cap : Nat) (ss : List ByteArray) (w : World) (h : IsStrs w (some a) b off ss) (hlen : ss.length ≤ 1048576) (hb : ss ≠ [] → b < w.heap.size) :
    Calls Try.prog 16 #[.string nm, .slice (some a) ss.length cap] w (BuildOpPost nm ss w) := by
  have hnil := fun (w : World) (a : Option Addr) (n c : Nat) => run_neq_slice_nil_any (P := Try.prog) w 41 9 a n c 0 0 Try.underlying41
  have hmk := run_make_cells (P := Try.prog) 71 72 _ 1 8 Try.underlying71 Try.info72 .i64 .i64 ss.length (by omega) (by omega)
  obtain ⟨ha, hc⟩ := h
  go_enter Try.func16, Try.ntmps16
  go_wp2_with fail
  go_loopw [6] (fun i wr => ∃ k : Nat, i = .int .i64 k ∧ k ≤ ss.length ∧ BInv ss w wr k) (fun i _ => ss.length - (intOf i).toNat)
  case atStart =>
    refine ⟨0, rfl, Nat.zero_le _, ⟨(Below.refl _ _).alloc (Nat.le_refl _) _, by simp, ?_, by intro i hi; omega⟩⟩
    have h := rowIs_made_cells w #[.pointer none] ss.length 72
    exact h.congr fun i _ => by simp [Nat.mod_one]
  case round =>
    obtain ⟨k, rfl, hk, hinv⟩ := hrel
    by_cases hlt : k < ss.length
    · have e := ha (ne_nil_of_lt hlt)
      cases e
      have c1 := (hinv.bel.cell (p := ⟨b, off + k, none⟩) (hb (ne_nil_of_lt hlt))).trans (hc k hlt)
      have r0 := hinv.row.cell (i := k) hlt
      have f0 := hinv.row.frozen k
      have hrl := hinv.row.lt
      have hsz := hinv.size
      have HSZ : Hid (wr.heap.size = w.heap.size + 1 + k) := hsz
      clear hsz
      go_wp2
      go_roundw
      case rel => exact ⟨k + 1, by go_num, by omega, binv_next hinv hlt _ (by simp)⟩
      case measure => simp [intOf]; omega
    · have hkl : k = ss.length := by omega
      subst hkl
      go_wp2
      go_ret
      refine ⟨_, rfl, hinv.bel.alloc (by have := hinv.size; omega) _, some ⟨w.heap.size, 0, none⟩, ss.length, w.heap.size, fun i => w.heap.size + 1 + i, by simp, by simp, fun _ => rfl, fun i hi => ⟨?_, ?_⟩⟩
      · rw [(hinv.row.alloc _).cell hi, if_pos hi]
      · have := hinv.size
        rw [World.cell?_alloc_lt (h := by simp; omega)]
        exact hinv.par i hi hi
end Go.Proofs.Qxb6604467a
