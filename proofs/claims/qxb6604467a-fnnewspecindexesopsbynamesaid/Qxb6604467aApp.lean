import Derived.Test.Qxb6604467aStrs
namespace Go.Proofs.Qxb6604467a
open Go.RowKit
set_option linter.unusedVariables false

theorem Try.info45 : (Try.prog.info? 45).map (fun i => (i.zero, i.size, i.bytes)) = some (some (.pointer none), 1, 8) := by kernel_rfl
theorem Try.info91 : (Try.prog.info? 91).map (fun i => (i.zero, i.size, i.bytes)) = some (some (.pointer none), 1, 8) := by kernel_rfl

set_option maxHeartbeats 1000000 in
theorem zzBytes21_calls (ns : Int) (a : Option Addr) (b off cap : Nat) (ss : List ByteArray) (w : World) (h : IsStrs w a b off ss) (hlen : ss.length ≤ maxLen) :
    Calls Try.prog 21 #[.slice a ss.length cap, .int .i64 ns] w (RetB (ss.length + strSum ss ≤ 1048576) w) := by
  unfold maxLen at hlen
  obtain ⟨ha, hc⟩ := h
  by_cases c1 : (1048576 : Int) < ss.length
  · go_enter Try.func21, Try.ntmps21
    go_wp2
    go_ret
    exact ⟨false, rfl, by simp, rfl⟩
  go_enter Try.func21, Try.ntmps21
  go_wp2
  go_loop [5, 6] (fun n i => ∃ (k m : Nat), k ≤ ss.length ∧ i = .int .i64 k ∧ n = .int .i64 m ∧ m = ss.length + strSum (ss.take k) ∧ m ≤ 1048576) (fun _ i => ss.length - (intOf i).toNat)
  case atStart => exact ⟨0, ss.length, Nat.zero_le _, rfl, by go_num, by simp [strSum], by omega⟩
  case round =>
    obtain ⟨k, m, hk, rfl, rfl, hm, hm2⟩ := hrel
    have HM : Hid (m = ss.length + strSum (ss.take k)) := hm
    clear hm
    by_cases hlt : k < ss.length
    · have e := ha (ne_nil_of_lt hlt)
      subst e
      have h1 := hc k hlt
      have HS : Hid (strSum (ss.take (k + 1)) = strSum (ss.take k) + ss[k].size) := strSum_take_succ ss k hlt
      go_wp2
      · go_ret
        exact ⟨false, rfl, by simp, rfl⟩
      · go_ret
        exact ⟨false, rfl, by simp, rfl⟩
      · go_round
        case rel => exact ⟨k + 1, m + ss[k].size, by omega, by go_num, by go_num, by rw [HM.out, HS.out]; omega, by omega⟩
        case measure => simp [intOf]; omega
    · have HA : Hid (strSum (ss.take k) = strSum ss) := strSum_take_all ss k hlt
      go_wp2
      go_ret
      exact ⟨true, rfl, fun _ => by rw [← HA.out, ← HM.out]; exact hm2, rfl⟩

set_option maxHeartbeats 400000 in
theorem specBytes_calls (ns : Int) (a : Option Addr) (b off cap : Nat) (ss : List ByteArray) (w : World) (h : IsStrs w a b off ss) (hlen : ss.length ≤ maxLen) :
    Calls Try.prog 22 #[.slice a ss.length cap, .int .i64 ns] w (RetI w) := by
  unfold maxLen at hlen
  obtain ⟨ha, hc⟩ := h
  go_enter Try.func22, Try.ntmps22
  go_wp2
  go_loop [5, 6] (fun n i => ∃ (k : Nat) (m : Int), k ≤ ss.length ∧ i = .int .i64 k ∧ n = .int .i64 m) (fun _ i => ss.length - (intOf i).toNat)
  case atStart => exact ⟨0, _, Nat.zero_le _, rfl, rfl⟩
  case round =>
    obtain ⟨k, m, hk, rfl, rfl⟩ := hrel
    by_cases hlt : k < ss.length
    · have e := ha (ne_nil_of_lt hlt)
      subst e
      have h1 := hc k hlt
      go_wp2
      · go_ret
        exact ⟨⟨_, rfl⟩, rfl⟩
      · go_round
        case rel => exact ⟨k + 1, _, by omega, by go_num, rfl⟩
        case measure => simp [intOf]; omega
    · go_wp2
      go_ret
      exact ⟨⟨_, rfl⟩, rfl⟩

/-- the operations' row, one block an operation -/
def NamesIs (w : World) (ao : Option Addr) (bo : Nat) (Q : Nat → Nat) (ss : List ByteArray) : Prop :=
  (ss ≠ [] → ao = some ⟨bo, 0, none⟩) ∧ ∀ i (h : i < ss.length), w.cell? ⟨bo, i, none⟩ = some (.pointer (some ⟨Q i, 0, none⟩)) ∧ w.cell? ⟨Q i, 2, none⟩ = some (.string ss[i])

theorem NamesIs.below {w w' : World} {ao : Option Addr} {bo : Nat} {Q : Nat → Nat} {ss : List ByteArray} (h : NamesIs w ao bo Q ss) (hb : Below w.heap.size w w') : NamesIs w' ao bo Q ss :=
  ⟨h.1, fun i hi => ⟨(hb.cell (World.block_lt_of_cell? w _ (h.2 i hi).1)).trans (h.2 i hi).1, (hb.cell (World.block_lt_of_cell? w _ (h.2 i hi).2)).trans (h.2 i hi).2⟩⟩

def AppIs (w : World) (Ba ns : Nat) (ao : Option Addr) (co bo : Nat) (Q : Nat → Nat) (ss : List ByteArray) : Prop :=
  (∃ sa sc, w.cell? ⟨Ba, 2, none⟩ = some (.slice sa ns sc)) ∧ w.cell? ⟨Ba, 4, none⟩ = some (.slice ao ss.length co) ∧ NamesIs w ao bo Q ss

theorem AppIs.below {w w' : World} {Ba ns : Nat} {ao : Option Addr} {co bo : Nat} {Q : Nat → Nat} {ss : List ByteArray} (h : AppIs w Ba ns ao co bo Q ss) (hb : Below w.heap.size w w') : AppIs w' Ba ns ao co bo Q ss := by
  obtain ⟨⟨sa, sc, h1⟩, h2, h3⟩ := h
  exact ⟨⟨sa, sc, (hb.cell (World.block_lt_of_cell? w _ h1)).trans h1⟩, (hb.cell (World.block_lt_of_cell? w _ h2)).trans h2, h3.below hb⟩

def BuildAppPost (ns : Nat) (ss : List ByteArray) (w : World) (e : Ending) (w' : World) : Prop :=
  ∃ Ba ao co bo Q, e = .returned (.tuple #[.pointer (some ⟨Ba, 0, none⟩), .slice ao ss.length co]) ∧ Below w.heap.size w w' ∧ AppIs w' Ba ns ao co bo Q ss

/-- the states' row while it is filled -/
structure TInv (ns : Nat) (w wr : World) (k : Nat) : Prop where
  bel : Below w.heap.size w wr
  size : wr.heap.size = w.heap.size + 1 + k
  row : ∃ f, wr.rowIs w.heap.size 91 ns f

theorem tinv_next {ns : Nat} {w wr : World} {k : Nat} (h : TInv ns w wr k) (v : Value) (o : Obj) : TInv ns w ((wr.setCell ⟨w.heap.size, k, none⟩ v).alloc o) (k + 1) where
  bel := (h.bel.setCell (by exact Nat.le_refl _) _).alloc (by have := h.size; simp; omega) _
  size := by have := h.size; simp; omega
  row := by
    obtain ⟨f, hf⟩ := h.row
    exact ⟨_, (hf.set k _).alloc _⟩

/-- the operations' row while it is filled -/
structure AInv (ss : List ByteArray) (w wr : World) (k : Nat) : Prop where
  bel : Below w.heap.size w wr
  size : wr.heap.size = w.heap.size + 1 + k
  row : wr.rowIs w.heap.size 45 ss.length (fun i => if i < k then .pointer (some ⟨w.heap.size + 1 + i, 0, none⟩) else .pointer none)
  par : ∀ i (h : i < ss.length), i < k → wr.cell? ⟨w.heap.size + 1 + i, 2, none⟩ = some (.string ss[i])

theorem ainv_next {ss : List ByteArray} {w wr : World} {k : Nat} (h : AInv ss w wr k) (hlt : k < ss.length) (c : Array Value) (t : TypeId) (hc : c[2]? = some (.string ss[k])) :
    AInv ss w ((wr.setCell ⟨w.heap.size, k, none⟩ (.pointer (some ⟨wr.heap.size, 0, none⟩))).alloc (.cells c t)) (k + 1) where
  bel := (h.bel.setCell (by exact Nat.le_refl _) _).alloc (by have := h.size; simp; omega) _
  size := by have := h.size; simp; omega
  row := by
    refine ((h.row.set k _).alloc _).congr fun i hi => ?_
    have hs := h.size
    by_cases e : i = k
    · subst e
      simp [hs]
    · rw [if_neg e]
      have : i < k ↔ i < k + 1 := by omega
      simp only [this]
  par i hi hk := by
    have hs := h.size
    by_cases e : i = k
    · subst e
      rw [← hs]
      rw [World.cell?_alloc_at (hn := by simp)]
      exact hc
    · rw [World.cell?_alloc_lt (h := by simp; omega), World.cell?_setCell_other (h := by simp <;> omega)]
      exact h.par i hi (by omega)

theorem AInv.names {ss : List ByteArray} {w wr : World} (h : AInv ss w wr ss.length) : NamesIs wr (some ⟨w.heap.size, 0, none⟩) w.heap.size (fun i => w.heap.size + 1 + i) ss :=
  ⟨fun _ => rfl, fun i hi => ⟨by rw [h.row.cell hi, if_pos hi], h.par i hi hi⟩⟩

set_option maxHeartbeats 1000000 in
theorem buildApp_nil (ns : Nat) (hns : ns ≤ 1048576) (w : World) : Calls Try.prog 23 #[.slice none 0 0, .int .i64 ns] w (BuildAppPost ns [] w) := by
  have hnil := fun (w : World) (a : Option Addr) (n c : Nat) => run_neq_slice_nil_any (P := Try.prog) w 41 9 a n c 0 0 Try.underlying41
  have hmk2 := run_make_cells (P := Try.prog) 90 91 _ 1 8 Try.underlying90 Try.info91 .i64 .i64 ns (by omega) (by omega)
  have HN : NamesIs w none 0 (fun _ => 0) [] := ⟨by simp, by simp⟩
  go_enter Try.func23, Try.ntmps23
  by_cases hn0 : 0 < ns
  · have hn1 : (0 : Int) < (ns : Int) := by omega
    go_wp2_with fail
    go_loopw [9] (fun i wr => ∃ k : Nat, i = .int .i64 k ∧ k ≤ ns ∧ TInv ns w wr k) (fun i _ => ns - (intOf i).toNat)
    case atStart =>
      refine ⟨0, rfl, Nat.zero_le _, ⟨(Below.refl _ _).alloc (Nat.le_refl _) _, by simp, ?_⟩⟩
      have h := rowIs_made_cells w #[.pointer none] ns 91
      exact ⟨_, h.congr fun i _ => by simp [Nat.mod_one]; rfl⟩
    case round =>
      obtain ⟨k, rfl, hk, hinv2⟩ := hrel
      by_cases hlt : k < ns
      · obtain ⟨f, hf⟩ := hinv2.row
        have r0 := hf.cell (i := k) hlt
        have f0 := hf.frozen k
        have hrl := hf.lt
        go_wp2
        go_roundw
        case rel => exact ⟨k + 1, by go_num, by omega, tinv_next hinv2 _ _⟩
        case measure => simp [intOf]; omega
      · go_wp2
        go_ret2
        refine ⟨_, _, _, 0, fun _ => 0, rfl, hinv2.bel.alloc (by have := hinv2.size; omega) _, ?_⟩
        refine ⟨⟨some ⟨w.heap.size, 0, none⟩, ns, by simp⟩, by simp, ?_⟩
        exact HN.below (hinv2.bel.alloc (by have := hinv2.size; omega) _)
  · have hn1 : ns = 0 := by omega
    subst hn1
    go_wp2
    go_ret2
    refine ⟨_, _, _, 0, fun _ => 0, rfl, (Below.refl _ _).alloc (Nat.le_refl _) _, ?_⟩
    refine ⟨⟨none, 0, by simp⟩, by simp, ?_⟩
    exact HN.below ((Below.refl _ _).alloc (Nat.le_refl _) _)

set_option maxHeartbeats 1000000 in
theorem buildApp_some (ns : Nat) (hns : ns ≤ 1048576) (a : Addr) (b off cap : Nat) (ss : List ByteArray) (w : World) (h : IsStrs w (some a) b off ss) (hlen : ss.length ≤ 1048576) (hb : ss ≠ [] → b < w.heap.size) :
    Calls Try.prog 23 #[.slice (some a) ss.length cap, .int .i64 ns] w (BuildAppPost ns ss w) := by
  have hnil := fun (w : World) (a : Option Addr) (n c : Nat) => run_neq_slice_nil_any (P := Try.prog) w 41 9 a n c 0 0 Try.underlying41
  have hmk := run_make_cells (P := Try.prog) 54 45 _ 1 8 Try.underlying54 Try.info45 .i64 .i64 ss.length (by omega) (by omega)
  have hmk2 := run_make_cells (P := Try.prog) 90 91 _ 1 8 Try.underlying90 Try.info91 .i64 .i64 ns (by omega) (by omega)
  obtain ⟨ha, hc⟩ := h
  go_enter Try.func23, Try.ntmps23
  go_wp2_with fail
  go_loopw [7] (fun i wr => ∃ k : Nat, i = .int .i64 k ∧ k ≤ ss.length ∧ AInv ss w wr k) (fun i _ => ss.length - (intOf i).toNat)
  case atStart =>
    refine ⟨0, rfl, Nat.zero_le _, ⟨(Below.refl _ _).alloc (Nat.le_refl _) _, by simp, ?_, by intro i hi; omega⟩⟩
    have h := rowIs_made_cells w #[.pointer none] ss.length 45
    exact h.congr fun i _ => by simp [Nat.mod_one]
  case round =>
    obtain ⟨k, rfl, hk, hinv⟩ := hrel
    by_cases hlt : k < ss.length
    · have e := ha (ne_nil_of_lt hlt)
      cases e
      have c1 := (hinv.bel.cell (p := ⟨b, off + k, none⟩) (hb (ne_nil_of_lt hlt))).trans (hc k hlt)
      have r0 := hinv.row.cell (i := k) hlt
      have f0 := hinv.row.frozen k
      have hrl := hinv.row.lt
      have hsz := hinv.size
      have HSZ : Hid (wr.heap.size = w.heap.size + 1 + k) := hsz
      clear hsz
      go_wp2
      go_roundw
      case rel => exact ⟨k + 1, by go_num, by omega, ainv_next hinv hlt _ _ (by simp)⟩
      case measure => simp [intOf]; omega
    have hkl : k = ss.length := by omega
    subst hkl
    have HN := hinv.names
    have hwle := hinv.bel.size
    obtain ⟨w1, hw1⟩ : ∃ w1, w1 = wr := ⟨_, rfl⟩
    subst hw1
    by_cases hn0 : 0 < ns
    · have hn1 : (0 : Int) < (ns : Int) := by omega
      go_wp2_with fail
      go_loopw [9] (fun i wr => ∃ k : Nat, i = .int .i64 k ∧ k ≤ ns ∧ TInv ns w1 wr k) (fun i _ => ns - (intOf i).toNat)
      case atStart =>
        refine ⟨0, rfl, Nat.zero_le _, ⟨(Below.refl _ _).alloc (Nat.le_refl _) _, by simp, ?_⟩⟩
        have h := rowIs_made_cells w1 #[.pointer none] ns 91
        exact ⟨_, h.congr fun i _ => by simp [Nat.mod_one]; rfl⟩
      case round =>
        obtain ⟨k, rfl, hk, hinv2⟩ := hrel
        by_cases hlt : k < ns
        · obtain ⟨f, hf⟩ := hinv2.row
          have r0 := hf.cell (i := k) hlt
          have f0 := hf.frozen k
          have hrl := hf.lt
          go_wp2
          go_roundw
          case rel => exact ⟨k + 1, by go_num, by omega, tinv_next hinv2 _ _⟩
          case measure => simp [intOf]; omega
        · go_wp2
          go_ret2
          refine ⟨_, _, _, w.heap.size, fun i => w.heap.size + 1 + i, rfl, hinv.bel.trans ((hinv2.bel.alloc (by have := hinv2.size; omega) _).mono hwle), ?_⟩
          refine ⟨⟨some ⟨w1.heap.size, 0, none⟩, ns, by simp⟩, by simp, ?_⟩
          exact HN.below (hinv2.bel.alloc (by have := hinv2.size; omega) _)
    · have hn1 : ns = 0 := by omega
      subst hn1
      go_wp2
      go_ret2
      refine ⟨_, _, _, w.heap.size, fun i => w.heap.size + 1 + i, rfl, hinv.bel.trans (((Below.refl _ _).alloc (Nat.le_refl _) _).mono hwle), ?_⟩
      refine ⟨⟨none, 0, by simp⟩, by simp, ?_⟩
      exact HN.below ((Below.refl _ _).alloc (Nat.le_refl _) _)

end Go.Proofs.Qxb6604467a
