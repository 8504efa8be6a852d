import Derived.Test.Qxb6604467aApp
import Derived.Test.Qxb6604467aMapFn
import Derived.Test.Qxb6604467aShelf
import Derived.Laws.IdiomStrings
import Derived.Lib.BufferRead
import Derived.Lib.Varint
namespace Go.Proofs.Qxb6604467a
open Go.RowKit
set_option linter.unusedVariables false

theorem Try.info111 : (Try.prog.info? 111).map (fun i => (i.zero, i.size, i.bytes)) = some (some (.slice none 0 0), 1, 24) := by kernel_rfl

def InitialPost (ns : Nat) (w : World) (e : Ending) (w' : World) : Prop :=
  e = .returned (.pointer (some ⟨w.heap.size + 1, 0, none⟩)) ∧ Below w.heap.size w w' ∧ w'.heap.size = w.heap.size + 2 ∧ w'.cell? ⟨w.heap.size + 1, 1, none⟩ = some (.slice (some ⟨w.heap.size, 0, none⟩) ns ns) ∧ w'.rowIs w.heap.size 111 ns (fun _ => .slice none 0 0)

set_option maxHeartbeats 400000 in
theorem initial_calls (Ba ns : Nat) (sa : Option Addr) (sc : Nat) (w : World) (h : w.cell? ⟨Ba, 2, none⟩ = some (.slice sa ns sc)) (hns : ns ≤ 1048576) :
    Calls Try.prog 33 #[.pointer (some ⟨Ba, 0, none⟩)] w (InitialPost ns w) := by
  have hmk := run_make_cells (P := Try.prog) 107 111 _ 1 24 Try.underlying107 Try.info111 .i64 .i64 ns (by omega) (by omega)
  go_enter Try.func33, Try.ntmps33
  go_wp2
  go_ret
  refine ⟨by simp, ((Below.refl _ _).alloc (Nat.le_refl _) _).alloc (by simp) _, by simp, ?_, ?_⟩
  · rw [World.cell?_alloc_at (hn := by simp)]
    simp
  · refine World.rowIs.alloc ?_ _
    have h := rowIs_made_cells w #[.slice none 0 0] ns 111
    exact h.congr fun i _ => by simp [Nat.mod_one]

def zeros (n : Nat) : ByteArray := ⟨(List.replicate n (0 : UInt8)).toArray⟩

def EncPost (n : Nat) (w : World) (e : Ending) (w' : World) : Prop := e = .returned (.string (zeros n)) ∧ Below w.heap.size w w'

theorem uv0 : Lib.uvarint 0 = [0] := by rw [Lib.uvarint_small (by decide)]; rfl

theorem conv_zeros {w : World} {B n : Nat} {v : Value} (h : w.ownsRow B 5 1 v n (Lib.byteCells (List.replicate n 0))) :
    (convert 110 9 v).run Try.prog w = .ok (.string (zeros n)) w := by
  obtain ⟨h1, ⟨rfl, rfl⟩ | ⟨g, cap, cur, rfl, hg, hb, hn, hc, hs, ht⟩⟩ := h
  · exact Lib.run_convert_nil_bytes w 110 9 5 0 Try.underlying110 Try.underlying5 Try.underlying9
  · have e : n = (List.replicate n (0 : UInt8)).length := by simp
    have h2 := run_convert_bytes_back (P := Try.prog) w 110 9 5 ⟨g, 0, none⟩ cap (List.replicate n 0) Try.underlying110 Try.underlying5 Try.underlying9
      (Lib.bytes_of_row hb (by rw [← e]; simpa using ht))
    rw [← e] at h2
    exact h2

set_option maxHeartbeats 1000000 in
theorem encode_calls (Bv Br ns : Nat) (w : World) (h1 : w.cell? ⟨Bv, 1, none⟩ = some (.slice (some ⟨Br, 0, none⟩) ns ns)) (h2 : w.rowIs Br 111 ns (fun _ => .slice none 0 0)) (hns : ns ≤ 1048576) :
    Calls Try.prog 34 #[.pointer (some ⟨Bv, 0, none⟩)] w (EncPost ns w) := by
  have hrl := h2.lt
  go_enter Try.func34, Try.ntmps34
  go_wp2_with fail
  go_loopw [3, 13] (fun b i wr => ∃ k : Nat, i = .int .i64 k ∧ k ≤ ns ∧ Below w.heap.size w wr ∧ wr.ownsRow w.heap.size 5 1 b k (Lib.byteCells (List.replicate k 0))) (fun _ i _ => ns - (intOf i).toNat)
  case atStart => exact ⟨0, rfl, Nat.zero_le _, Below.refl _ _, World.ownsRow_nil _ _ _ _⟩
  case round =>
    obtain ⟨k, rfl, hk, hbel, hown⟩ := hrel
    obtain ⟨w0, hw0⟩ : ∃ w0, w0 = wr := ⟨_, rfl⟩
    subst hw0
    by_cases hlt : k < ns
    · have c0 := (hbel.cell (p := ⟨Br, k, none⟩) hrl).trans (h2.cell hlt)
      go_wp2_with fail
      refine (Try.binary_AppendUvarint w.heap.size k 0 (by omega) _ _ w0 hown hbel.size (by omega)).mono ?_
      rintro e w' ⟨v', rfl, hown', hbel'⟩
      rw [uv0] at hown'
      have e1 : Lib.byteCells (List.replicate k 0) ++ Lib.byteCells [0] = Lib.byteCells (List.replicate (k + 1) 0) := by
        rw [List.replicate_succ']
        simp [Lib.byteCells]
      rw [e1] at hown'
      have hbel2 := hbel.trans hbel'
      go_wp2_with fail
      go_loopw [3, 24] (fun b i wr => i = .int .i64 0 ∧ b = v' ∧ wr = w') (fun _ _ _ => 0)
      case atStart => exact ⟨rfl, rfl, rfl⟩
      case round =>
        obtain ⟨rfl, rfl, hwr⟩ := hrel
        have hwr := hwr.symm
        subst hwr
        go_wp2
        go_roundw
        case rel => exact ⟨k + 1, by go_num, by omega, hbel2, hown'⟩
        case measure => simp [intOf]; omega
    · have hkl : k = ns := by omega
      subst hkl
      have hcv := conv_zeros hown
      go_wp2
      go_ret
      exact ⟨rfl, hbel⟩
end Go.Proofs.Qxb6604467a
