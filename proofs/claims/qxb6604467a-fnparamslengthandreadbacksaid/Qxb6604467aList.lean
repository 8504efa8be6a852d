import Derived.Test.Qxb6604467aBuildOp
import Derived.Test.Qxb6604467aShelf
import Derived.Deep.RegionHeld3
import Derived.Deep.DeepFit
namespace Go.Proofs.Qxb6604467a
open Go.RowKit
set_option linter.unusedVariables false

/-- how the names behind the first are written: the last behind " and ", the others behind ", " -/
def tailText : List (List UInt8) → List UInt8
  | [] => []
  | [x] => [32, 97, 110, 100, 32] ++ x
  | x :: y :: r => [44, 32] ++ x ++ tailText (y :: r)

def listText : List (List UInt8) → List UInt8
  | [] => []
  | x :: r => x ++ tailText r

theorem tailText_snoc : ∀ (r : List (List UInt8)) (z : List UInt8), tailText (r ++ [z]) = Lib.joinTail [44, 32] r ++ [32, 97, 110, 100, 32] ++ z
  | [], z => by simp [tailText, Lib.joinTail]
  | [x], z => by simp [tailText, Lib.joinTail]
  | x :: y :: r, z => by
    have ih := tailText_snoc (y :: r) z
    simp only [List.cons_append] at ih ⊢
    rw [tailText, ih]
    simp [Lib.joinTail]

theorem listText_snoc (x : List UInt8) (r : List (List UInt8)) (z : List UInt8) : listText (x :: r ++ [z]) = Lib.join (x :: r) [44, 32] ++ [32, 97, 110, 100, 32] ++ z := by
  rw [Lib.join_cons, List.cons_append, listText, tailText_snoc]
  simp

def bl (s : ByteArray) : List UInt8 := s.data.toList

def TextPost (t : List UInt8) (w : World) (e : Ending) (w' : World) : Prop := e = .returned (.string ⟨t.toArray⟩) ∧ Below w.heap.size w w'

set_option maxHeartbeats 400000 in
theorem list_one (b off cap : Nat) (x : ByteArray) (w : World) (h : w.cell? ⟨b, off, none⟩ = some (.string x)) (hb : b < w.heap.size) (hcap : 1 ≤ cap) (hx : x.size ≤ 1048577) :
    Calls Try.prog 36 #[.slice (some ⟨b, off, none⟩) 1 cap] w (TextPost (bl x) w) := by
  have hj := Try.strings_Join b off cap [x] ⟨#[]⟩ w (fun j y hy => by
    have : j = 0 := by
      rcases Nat.eq_zero_or_pos j with e | e
      · exact e
      · rw [List.getElem?_eq_none (by simp; omega)] at hy; cases hy
    subst this
    simp at hy
    subst hy
    simpa using h) hb (by simp) (by simpa using hcap) (by simp [Lib.join_one]; omega)
  go_enter Try.func36, Try.ntmps36
  go_wp2_with fail
  refine hj.mono ?_
  rintro e w' ⟨rfl, hb'⟩
  go_wp2
  go_ret
  exact ⟨by simp [Lib.join_one, bl], hb'⟩

theorem app2 (l : List UInt8) (z : ByteArray) : ((⟨l.toArray⟩ : ByteArray) ++ z) = ⟨(l ++ bl z).toArray⟩ := by
  apply ByteArray.ext
  rw [ByteArray.data_append]
  simp [bl]

theorem app3 (l m : List UInt8) (z : ByteArray) : ((⟨l.toArray⟩ : ByteArray) ++ ⟨m.toArray⟩ ++ z) = ⟨(l ++ m ++ bl z).toArray⟩ := by
  rw [app2, app2]
  simp [bl]

set_option maxRecDepth 100000 in
set_option maxHeartbeats 800000 in
theorem list_more (b off cap m L : Nat) (hL : L = m + 1) (x : ByteArray) (r : List ByteArray) (z : ByteArray) (w : World) (hm : (x :: r).length = m) (h : ∀ j y, (x :: r)[j]? = some y → w.cell? ⟨b, off + j, none⟩ = some (.string y)) (hz : w.cell? ⟨b, off + m, none⟩ = some (.string z))
    (hb : b < w.heap.size) (hcap : m + 1 ≤ cap) (hcm : cap ≤ maxLen) (hl : m ≤ 1048576) (hlen : (Lib.join ((x :: r).map bl) [44, 32]).length ≤ 1073741824) (hzs : z.size ≤ 1048577) :
    Calls Try.prog 36 #[.slice (some ⟨b, off, none⟩) L cap] w (TextPost (listText ((x :: r).map bl ++ [bl z])) w) := by
  unfold maxLen at hcm
  have hj : ∀ n, Calls Try.prog 39 #[.slice (some ⟨b, off, none⟩) m cap, .string ⟨#[44, 32]⟩] (w.drewN n) fun e w' => e = .returned (.string ⟨(Lib.join ((x :: r).map bl) [44, 32]).toArray⟩) ∧ Below w.heap.size (w.drewN n) w' :=
    fun n => by
      have := Try.strings_Join b off cap (x :: r) ⟨#[44, 32]⟩ (w.drewN n) h hb (by rw [hm]; omega) (by rw [hm]; omega) (Nat.le_trans hlen (by omega))
      rw [hm] at this
      exact this
  have hm1 : 1 ≤ m := by rw [← hm]; simp
  have i0 : (0 : Int) ≤ (m : Int) := by omega
  have i1 : (m : Int) ≤ (cap : Int) := by omega
  have i2 : (m : Int) < (L : Int) := by omega
  have i3 : ¬ (L : Int) < 2 := by omega
  have i4 : (L : Int) - 1 = (m : Int) := by omega
  have i5 : (L : Int) ≤ 1048577 := by omega
  have i6 : IntKind.i64.wrap (m : Int) = (m : Int) := by rw [IntKind.wrap_i64]; omega
  clear hL
  have ht := listText_snoc (bl x) (r.map bl) (bl z)
  rw [← List.map_cons] at ht
  have HT : Hid (listText ((x :: r).map bl ++ [bl z]) = Lib.join ((x :: r).map bl) [44, 32] ++ [32, 97, 110, 100, 32] ++ bl z) := ht
  generalize Lib.join ((x :: r).map bl) [44, 32] = jt at hj HT hlen
  clear h hm ht
  have i7 : ¬ 9223372036854775807 < jt.length + 5 := by omega
  have i8 : ¬ 9223372036854775807 < jt.length + 5 + z.size := by omega
  go_enter Try.func36, Try.ntmps36
  go_wp2_with fail
  go_region_held3 (fun w' => w'.cell? ⟨b, off + m, none⟩ = some (.string z)) (first | go_keep | exact (hb'.cell (p := ⟨b, off + m, none⟩) hb).trans hz) (first | (go_at_call 39; refine (hj 1).mono ?_; rintro e w' ⟨rfl, hb'⟩))
  go_wp2
  go_ret
  refine ⟨?_, Below.trans (b := w.drewN 1) (belowDrewN (Below.refl _ _) 1) hb'⟩
  rw [HT.out]
  exact congrArg (fun s : ByteArray => Ending.returned (.string s)) (app3 jt [32, 97, 110, 100, 32] z)
end Go.Proofs.Qxb6604467a
