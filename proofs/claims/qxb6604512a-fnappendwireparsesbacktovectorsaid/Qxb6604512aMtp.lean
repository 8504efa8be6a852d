import Derived.Test.Qxb6604512aRde
namespace Go.Proofs.Qxb6604512a
open Go.RowKit
set_option linter.unusedVariables false

theorem Cells.sub {w : World} {b off : Nat} {L pre X post : List UInt8} (h : Cells w b off L) (hL : L = pre ++ X ++ post) : Cells w b (off + pre.length) X := by
  intro i hi
  have := h.mid hL i hi
  rw [← Nat.add_assoc] at this
  exact this

theorem Cells.front {w : World} {b off : Nat} {L X post : List UInt8} (h : Cells w b off L) (hL : L = X ++ post) : Cells w b off X := by
  have := Cells.sub (pre := []) (X := X) h (by simpa using hL)
  simpa using this

theorem Cells.below {w w' : World} {b off : Nat} {L : List UInt8} (h : Cells w b off L) (hb : b < w.heap.size) (hw : Below w.heap.size w w') : Cells w' b off L :=
  fun i hi => (hw.cell (p := ⟨b, off + i, none⟩) hb).trans (h i hi)

theorem readInt_of (w : World) (b off cap n : Nat) (D : List UInt8) (hD : D = intB n) (hc : Cells w b off D) (hn : n < 18446744073709551616) :
    Calls Try.prog 50 #[.slice (some ⟨b, off, none⟩) D.length cap] w (IntPost n w) := by
  subst hD
  exact readInt_calls w b off cap n hc hn

theorem intB_pos (n : Nat) : 1 ≤ (intB n).length := by
  unfold intB
  split
  · rw [Lib.beBytes_length]; omega
  · split
    · rw [Lib.beBytes_length]; omega
    · split <;> (rw [Lib.beBytes_length]; omega)

def MatchPost (r : Nat) (w : World) (e : Ending) (w' : World) : Prop := e = .returned (.tuple #[.int .i64 (r : Int), .bool true]) ∧ Below w.heap.size w w'

/-- an element's head -/
def headB (t : Nat) (l : List UInt8) : List UInt8 := varNum t ++ varNum l.length
theorem headB_len (t : Nat) (l : List UInt8) : (headB t l).length = headLen t l := by simp only [headB, headLen, List.length_append]
theorem elem_head (t : Nat) (l : List UInt8) : elem t l = headB t l ++ l := rfl

set_option maxRecDepth 100000 in
set_option maxHeartbeats 4000000 in
theorem matchPair_calls (w : World) (b off cap : Nat) (L pre post : List UInt8) (p : Nat × Nat) (hL : L = pre ++ pairB p ++ post) (hc : Cells w b off L) (hb : b < w.heap.size) (hp : p.1 < 18446744073709551616 ∧ p.2 < 18446744073709551616) (hlen : L.length ≤ 1407374883553) (hcap : L.length ≤ cap) :
    Calls Try.prog 39 #[.slice (some ⟨b, off, none⟩) L.length cap, .int .i64 (pre.length : Int), .agg #[.int .u64 (p.1 : Int), .int .u64 (p.2 : Int)]] w (MatchPost (pre.length + (pairB p).length) w) := by
  obtain ⟨A, hA⟩ : ∃ A, A = intB p.1 := ⟨_, rfl⟩
  obtain ⟨B, hB⟩ : ∃ B, B = intB p.2 := ⟨_, rfl⟩
  obtain ⟨M, hM⟩ : ∃ M, M = elem 212 A ++ elem 214 B := ⟨_, rfl⟩
  have hpb : pairB p = elem 210 M := by rw [hM, hA, hB, pairB]
  rw [hpb] at hL ⊢
  obtain ⟨w1, hw1⟩ : ∃ w1, w1 = w.alloc (.cells #[.int .u64 (p.1 : Int), .int .u64 (p.2 : Int)] 41) := ⟨_, rfl⟩
  have hbel : Below w.heap.size w w1 := by rw [hw1]; exact (Below.refl _ _).alloc (Nat.le_refl _) _
  have g0 : w1.cell? ⟨w.heap.size, 0, none⟩ = some (.int .u64 (p.1 : Int)) := by rw [hw1, World.cell?_alloc_at (hn := by simp)]; simp
  have g1 : w1.cell? ⟨w.heap.size, 1, none⟩ = some (.int .u64 (p.2 : Int)) := by rw [hw1, World.cell?_alloc_at (hn := by simp)]; simp
  have hc1 := hc.below hb hbel
  have call1 := readElem_calls w1 b off cap L pre post M 210 hL hc1 (by omega) hlen
  obtain ⟨L1, hL1⟩ : ∃ L1, L1 = pre ++ elem 210 M := ⟨_, rfl⟩
  have hLL : L = L1 ++ post := by rw [hL, hL1]
  have hc2 := hc1.front hLL
  have hl1 : L1.length ≤ L.length := by rw [hLL, List.length_append]; omega
  obtain ⟨P1, hP1⟩ : ∃ P1, P1 = pre ++ headB 210 M := ⟨_, rfl⟩
  obtain ⟨P2, hP2⟩ : ∃ P2, P2 = P1 ++ elem 212 A := ⟨_, rfl⟩
  have d1 : L1 = P1 ++ elem 212 A ++ elem 214 B := by rw [hL1, hP1, elem_head 210 M, hM]; simp only [List.append_assoc]
  have d2 : L1 = P2 ++ elem 214 B ++ [] := by rw [d1, hP2, List.append_nil]
  have d3 : L1 = (P1 ++ headB 212 A) ++ A ++ elem 214 B := by rw [d1, elem_head 212 A]; simp only [List.append_assoc]
  have d4 : L1 = (P2 ++ headB 214 B) ++ B ++ [] := by rw [d2, elem_head 214 B]; simp only [List.append_assoc, List.append_nil]
  have call2 := readElem_calls w1 b off cap L1 P1 (elem 214 B) A 212 d1 hc2 (by omega) (by omega)
  have call3 := readElem_calls w1 b off cap L1 P2 [] B 214 d2 hc2 (by omega) (by omega)
  have s1 := hc2.sub d3
  have s2 := hc2.sub d4
  have call4 := fun c => readInt_of w1 b (off + (P1 ++ headB 212 A).length) c p.1 A hA s1 hp.1
  have call5 := fun c => readInt_of w1 b (off + (P2 ++ headB 214 B).length) c p.2 B hB s2 hp.2
  have a1 : 1 ≤ A.length := by rw [hA]; exact intB_pos _
  have b1 : 1 ≤ B.length := by rw [hB]; exact intB_pos _
  have e1 : pre.length + headLen 210 M = P1.length := by rw [hP1, List.length_append, headB_len]
  have e2 : pre.length + (elem 210 M).length = L1.length := by rw [hL1, List.length_append]
  have e3 : P1.length + headLen 212 A = (P1 ++ headB 212 A).length := by rw [List.length_append, headB_len]
  have e4 : P1.length + (elem 212 A).length = P2.length := by rw [hP2, List.length_append]
  have e5 : P2.length + headLen 214 B = (P2 ++ headB 214 B).length := by rw [List.length_append, headB_len]
  have e6 : P2.length + (elem 214 B).length = L1.length := by rw [d2]; simp only [List.length_append, List.length_nil, Nat.add_zero]
  have e7 : P2.length = (P1 ++ headB 212 A).length + A.length := by rw [hP2, elem_head]; simp only [List.length_append, Nat.add_assoc]
  have e8 : L1.length = (P2 ++ headB 214 B).length + B.length := by rw [d4]; simp only [List.length_append, List.length_nil, Nat.add_zero]
  have e9 : P2.length ≤ L1.length := by rw [d2]; simp only [List.length_append]; omega
  rw [e1, e2] at call1
  rw [e3, e4] at call2
  rw [e5, e6] at call3
  rw [e2]
  clear e1 e2 e3 e4 e5 e6 d1 d2 d3 d4 s1 s2 hL hLL hc hc1 hc2 hpb hL1 hP1 hP2 hM hA hB
  generalize L1.length = ve at *
  generalize P1.length = vs at *
  generalize P2.length = be at *
  generalize (P1 ++ headB 212 A).length = bs at *
  generalize (P2 ++ headB 214 B).length = ss at *
  generalize A.length = la at *
  generalize B.length = lb at *
  generalize L.length = N at *
  generalize pre.length = i at *
  go_enter Try.func39, Try.ntmps39
  go_wp2_with fail
  rw [← hw1]
  refine call1.mono ?_
  rintro e w2 ⟨rfl, hww⟩
  subst hww
  have h1 : (ve : Int) ≤ cap := by omega
  have h2 : (be : Int) ≤ cap := by omega
  have h3 : (bs : Int) ≤ be := by omega
  have h4 : (ss : Int) ≤ ve := by omega
  have k1 : ¬ cap = bs := by omega
  have k2 : ¬ bs = cap := by omega
  have k3 : be - bs = la := by omega
  have k4 : ¬ cap = ss := by omega
  have k5 : ¬ ss = cap := by omega
  have k6 : ve - ss = lb := by omega
  clear e7 e8 hw1
  have i1 : ((p.1 : Int) != (p.1 : Int)) = false := by simp
  have i2 : ((p.2 : Int) != (p.2 : Int)) = false := by simp
  have i3 : ((ve : Int) != (ve : Int)) = false := by simp
  obtain ⟨p1, p2⟩ := p
  simp only at *
  clear hp
  go_wp2_with fail
  refine call2.mono ?_
  rintro e w3 ⟨rfl, hww⟩
  subst hww
  go_wp2_with fail
  refine (call4 _).mono ?_
  rintro e w4 ⟨rfl, hww⟩
  subst hww
  go_wp2_with fail
  refine call3.mono ?_
  rintro e w5 ⟨rfl, hww⟩
  subst hww
  go_wp2_with fail
  refine (call5 _).mono ?_
  rintro e w6 ⟨rfl, hww⟩
  subst hww
  go_wp2
  go_ret2
  exact ⟨rfl, hbel⟩
end Go.Proofs.Qxb6604512a
