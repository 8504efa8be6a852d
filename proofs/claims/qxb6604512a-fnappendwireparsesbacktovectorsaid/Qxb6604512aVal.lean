import Derived.Test.Qxb6604512aWf
import Derived.Laws.Bits64b
namespace Go.Proofs.Qxb6604512a
open Go.RowKit
set_option linter.unusedVariables false

/-- bytes as a number, the greatest first -/
def val (l : List UInt8) : Nat := l.foldl (fun n b => n * 256 + b.toNat) 0

theorem val_snoc (l : List UInt8) (b : UInt8) : val (l ++ [b]) = val l * 256 + b.toNat := by simp [val]

theorem val_succ (l : List UInt8) (k : Nat) (h : k < l.length) : val (l.take (k + 1)) = val (l.take k) * 256 + l[k].toNat := by
  rw [List.take_succ_eq_append_getElem h, val_snoc]

theorem val_take_lt (l : List UInt8) : ∀ k, k ≤ l.length → val (l.take k) < 256 ^ k
  | 0, _ => by simp [val]
  | k + 1, h => by
    have ih := val_take_lt l k (by omega)
    have := l[k].toNat_lt
    rw [val_succ l k h, Nat.pow_succ]
    omega

theorem be_succ (w n : Nat) : Lib.beBytes (w + 1) n = Lib.beBytes w (n / 256) ++ [(n % 256).toUInt8] := by
  unfold Lib.beBytes
  rw [Lib.leBytes, List.reverse_cons]

theorem val_be : ∀ w n, n < 256 ^ w → val (Lib.beBytes w n) = n
  | 0, n, h => by
    simp at h
    subst h
    rfl
  | w + 1, n, h => by
    rw [be_succ, val_snoc, val_be w (n / 256) (by rw [Nat.pow_succ] at h; omega)]
    have : ((n % 256).toUInt8).toNat = n % 256 := by simp
    rw [this]
    omega

theorem or_byte (n c : Nat) (hn : n < 72057594037927936) (hc : c < 256) : bits .or .u64 ((n : Int) * 256) (c : Int) = (n : Int) * 256 + (c : Int) := by
  have h := bits_or_u64_nat (n * 256) c (by omega) (by omega)
  have e : n * 256 ||| c = n * 256 + c := by
    have := Nat.two_pow_add_eq_or_of_lt (i := 8) (b := c) (by omega) n
    rw [Nat.mul_comm n 256]
    exact this.symm
  rw [e] at h
  rw [show ((n : Int) * 256) = ((n * 256 : Nat) : Int) by omega, h]
  omega

theorem varNum_pos (n : Nat) : 1 ≤ (varNum n).length := by
  unfold varNum
  split
  · rw [Lib.beBytes_length]; omega
  · split
    · simp
    · split <;> simp
end Go.Proofs.Qxb6604512a
