import Derived.Test.Qxb6604512aNcm
namespace Go.Proofs.Qxb6604512a
open Go.RowKit
set_option linter.unusedVariables false

def SrchPost (i : Nat) (r : Bool) (w : World) (e : Ending) (w' : World) : Prop := e = .returned (.tuple #[.int .i64 (i : Int), .bool r]) ∧ Below w.heap.size w w'

set_option maxRecDepth 100000 in
set_option maxHeartbeats 4000000 in
theorem searchName_calls (ok : Nat → Prop) (w : World) (vm vt : Value) (es : List Ent) (cs : List (Nat × List UInt8)) (i : Nat) (hm : RE ok w vm es) (ht : RC ok w vt cs) (hok : ∀ b, ok b → b < w.heap.size) (hsz : Sized es) (hcl : cs.length ≤ 1048576)
    (hi : i < es.length) (hlo : ∀ t (h : t < es.length), t < i → cmpN es[t].1 cs < 0) (heq : cmpN es[i].1 cs = 0) (hhi : ∀ t (h : t < es.length), i < t → 0 < cmpN es[t].1 cs) :
    Calls Try.prog 52 #[vm, vt, .func (.func 53) #[] #[]] w (SrchPost i true w) := by
  obtain ⟨a, cap, rfl, hn, hc⟩ := hm
  obtain ⟨b, off, e, okb, hcc⟩ := hc (ne_nil_of_lt hi)
  subst e
  have hb := hok _ okb
  have hlen := hsz.1
  have HLO : Hid (∀ t (h : t < es.length), t < i → cmpN es[t].1 cs < 0) := hlo
  have HEQ : Hid (cmpN es[i].1 cs = 0) := heq
  have HHI : Hid (∀ t (h : t < es.length), i < t → 0 < cmpN es[t].1 cs) := hhi
  clear hlo heq hhi hn hc
  go_enter Try.func52, Try.ntmps52
  go_wp2
  go_loopw [9, 10] (fun s9 s10 wr => ∃ lo hi : Nat, s9 = .int .i64 lo ∧ s10 = .int .i64 hi ∧ lo ≤ i ∧ i ≤ hi ∧ hi ≤ es.length ∧ Below w.heap.size w wr) (fun s9 s10 _ => (intOf s10).toNat - (intOf s9).toNat)
  case atStart => exact ⟨0, es.length, rfl, rfl, by omega, by omega, by omega, Below.refl _ _⟩
  case round =>
    obtain ⟨lo, hi', rfl, rfl, h1, h2, h3, hbel⟩ := hrel
    obtain ⟨w0, hw0⟩ : ∃ w0, w0 = wr := ⟨_, rfl⟩
    subst hw0
    have hs0 := hbel.size
    by_cases hlt : lo < hi'
    · obtain ⟨m, hmd⟩ : ∃ m, m = (lo + hi') / 2 := ⟨_, rfl⟩
      have hml : m < es.length := by omega
      obtain ⟨vn, vp, c1, c2, hrc, hrp⟩ := hcc m hml
      have d1 := (hbel.cell (p := ⟨b, off + m * 2, none⟩) hb).trans c1
      have d2 := (hbel.cell (p := ⟨b, off + m * 2 + 1, none⟩) hb).trans c2
      have hmI : ((lo : Int) + (hi' : Int)) / 2 = (m : Int) := by omega
      have hmL : (m : Int) < es.length := by omega
      have hm1 : lo ≤ m := by omega
      have hm2 : m < hi' := by omega
      clear hmd
      obtain ⟨lx, _, _⟩ := hsz.2 _ (List.getElem_mem hml)
      have hcall := findName_calls ok w0 es[m].1 cs vn vp vt (hrc.kept (fun b hb => hbel.block b (hok b hb)) (fun _ h => h)) (ht.kept (fun b hb => hbel.block b (hok b hb)) (fun _ h => h)) (fun b hb => by have := hok b hb; omega) lx hcl (by obtain ⟨a, c, e, _⟩ := hrp; exact ⟨a, _, c, e⟩)
      have F1 : Hid (m < i → cmpN es[m].1 cs < 0) := fun h => HLO.out m hml h
      have F2 : Hid (i ≤ m → ¬ cmpN es[m].1 cs < 0) := by
        intro h
        by_cases e : i = m
        · subst e; rw [HEQ.out]; omega
        · have := HHI.out m hml (by omega); omega
      generalize cmpN es[m].1 cs = cc at hcall F1 F2
      clear hcc hrc hrp c1 c2
      by_cases hmi : m < i
      · have hneg := F1.out hmi
        clear F1 F2
        go_wp2_with fail
        refine hcall.mono ?_
        rintro e w3 ⟨rfl, hb3⟩
        have hb' : Below w.heap.size w w3 := hbel.trans (hb3.mono hs0)
        go_wp2
        go_roundw
        case rel => exact ⟨m + 1, hi', by go_num, rfl, by omega, by omega, by omega, hb'⟩
        case measure => simp [intOf]; omega
      · have hneg := F2.out (by omega)
        clear F1 F2
        go_wp2_with fail
        refine hcall.mono ?_
        rintro e w3 ⟨rfl, hb3⟩
        have hb' : Below w.heap.size w w3 := hbel.trans (hb3.mono hs0)
        go_wp2
        go_roundw
        case rel => exact ⟨lo, m, rfl, rfl, by omega, by omega, by omega, hb'⟩
        case measure => simp [intOf]; omega
    · obtain rfl : lo = i := by omega
      obtain rfl : hi' = lo := by omega
      obtain ⟨vn, vp, c1, c2, hrc, hrp⟩ := hcc hi' hi
      have d1 := (hbel.cell (p := ⟨b, off + hi' * 2, none⟩) hb).trans c1
      have d2 := (hbel.cell (p := ⟨b, off + hi' * 2 + 1, none⟩) hb).trans c2
      have hmL : (hi' : Int) < es.length := by omega
      obtain ⟨lx, _, _⟩ := hsz.2 _ (List.getElem_mem hi)
      have hcall := findName_calls ok w0 es[hi'].1 cs vn vp vt (hrc.kept (fun b hb => hbel.block b (hok b hb)) (fun _ h => h)) (ht.kept (fun b hb => hbel.block b (hok b hb)) (fun _ h => h)) (fun b hb => by have := hok b hb; omega) lx hcl (by obtain ⟨a, c, e, _⟩ := hrp; exact ⟨a, _, c, e⟩)
      rw [HEQ.out] at hcall
      clear hcc hrc hrp c1 c2
      go_wp2_with fail
      refine hcall.mono ?_
      rintro e w3 ⟨rfl, hb3⟩
      have hb' : Below w.heap.size w w3 := hbel.trans (hb3.mono hs0)
      go_wp2
      go_ret2
      exact ⟨rfl, hb'⟩

def foundAt (ps : List (Nat × Nat)) (p bt : Nat) : Bool := if h : p < ps.length then ps[p].1 == bt else false

set_option maxRecDepth 100000 in
set_option maxHeartbeats 4000000 in
theorem searchBoot_calls (ok : Nat → Prop) (w : World) (vp : Value) (ps : List (Nat × Nat)) (bt p : Nat) (hp : RP ok w vp ps) (hok : ∀ b, ok b → b < w.heap.size) (hlen : ps.length ≤ 1048576)
    (hpl : p ≤ ps.length) (hlo : ∀ t (h : t < ps.length), t < p → ps[t].1 < bt) (hhi : ∀ t (h : t < ps.length), p ≤ t → bt ≤ ps[t].1) :
    Calls Try.prog 55 #[vp, .int .u64 (bt : Int), .func (.func 56) #[] #[]] w (SrchPost p (foundAt ps p bt) w) := by
  obtain ⟨a, cap, rfl, hn, hc⟩ := hp
  have HLO : Hid (∀ t (h : t < ps.length), t < p → ps[t].1 < bt) := hlo
  have HHI : Hid (∀ t (h : t < ps.length), p ≤ t → bt ≤ ps[t].1) := hhi
  clear hlo hhi hn
  go_enter Try.func55, Try.ntmps55
  go_wp2
  go_loopw [9, 10] (fun s9 s10 wr => ∃ lo hi : Nat, s9 = .int .i64 lo ∧ s10 = .int .i64 hi ∧ lo ≤ p ∧ p ≤ hi ∧ hi ≤ ps.length ∧ Below w.heap.size w wr) (fun s9 s10 _ => (intOf s10).toNat - (intOf s9).toNat)
  case atStart => exact ⟨0, ps.length, rfl, rfl, by omega, by omega, by omega, Below.refl _ _⟩
  case round =>
    obtain ⟨lo, hi', rfl, rfl, h1, h2, h3, hbel⟩ := hrel
    obtain ⟨w0, hw0⟩ : ∃ w0, w0 = wr := ⟨_, rfl⟩
    subst hw0
    have hs0 := hbel.size
    by_cases hlt : lo < hi'
    · obtain ⟨m, hmd⟩ : ∃ m, m = (lo + hi') / 2 := ⟨_, rfl⟩
      have hml : m < ps.length := by omega
      obtain ⟨b, off, e, okb, hcc⟩ := hc (ne_nil_of_lt hml)
      subst e
      have hb := hok _ okb
      obtain ⟨_, _, c1, c2⟩ := hcc m hml
      have d1 := (hbel.cell (p := ⟨b, off + m * 2, none⟩) hb).trans c1
      have d2 := (hbel.cell (p := ⟨b, off + m * 2 + 1, none⟩) hb).trans c2
      have hmI : ((lo : Int) + (hi' : Int)) / 2 = (m : Int) := by omega
      have hmL : (m : Int) < ps.length := by omega
      have hm1 : lo ≤ m := by omega
      have hm2 : m < hi' := by omega
      clear hmd
      have hcall := findBoot_calls w0 (ps[m].1 : Int) (ps[m].2 : Int) (bt : Int)
      have F1 : Hid (m < p → cmpI (ps[m].1 : Int) (bt : Int) < 0) := fun h => by
        have := HLO.out m hml h
        rw [cmpI, if_pos (by omega)]
        omega
      have F2 : Hid (p ≤ m → ¬ cmpI (ps[m].1 : Int) (bt : Int) < 0) := fun h => by
        have := HHI.out m hml h
        rw [cmpI, if_neg (by omega)]
        split <;> omega
      generalize cmpI (ps[m].1 : Int) (bt : Int) = cc at hcall F1 F2
      generalize (ps[m].1 : Int) = x1 at hcall d1 c1
      generalize (ps[m].2 : Int) = x2 at hcall d2 c2
      clear hcc c1 c2
      by_cases hmi : m < p
      · have hneg := F1.out hmi
        clear F1 F2
        go_wp2_with fail
        refine hcall.mono ?_
        rintro e w3 ⟨rfl, hb3⟩
        have hb' : Below w.heap.size w w3 := hbel.trans (hb3.mono hs0)
        go_wp2
        go_roundw
        case rel => exact ⟨m + 1, hi', by go_num, rfl, by omega, by omega, by omega, hb'⟩
        case measure => simp [intOf]; omega
      · have hneg := F2.out (by omega)
        clear F1 F2
        go_wp2_with fail
        refine hcall.mono ?_
        rintro e w3 ⟨rfl, hb3⟩
        have hb' : Below w.heap.size w w3 := hbel.trans (hb3.mono hs0)
        go_wp2
        go_roundw
        case rel => exact ⟨lo, m, rfl, rfl, by omega, by omega, by omega, hb'⟩
        case measure => simp [intOf]; omega
    · obtain rfl : lo = p := by omega
      obtain rfl : hi' = lo := by omega
      by_cases hin : hi' < ps.length
      · obtain ⟨b, off, e, okb, hcc⟩ := hc (ne_nil_of_lt hin)
        subst e
        have hb := hok _ okb
        obtain ⟨_, _, c1, c2⟩ := hcc hi' hin
        have d1 := (hbel.cell (p := ⟨b, off + hi' * 2, none⟩) hb).trans c1
        have d2 := (hbel.cell (p := ⟨b, off + hi' * 2 + 1, none⟩) hb).trans c2
        have hmL : (hi' : Int) < ps.length := by omega
        have hcall := findBoot_calls w0 (ps[hi'].1 : Int) (ps[hi'].2 : Int) (bt : Int)
        have hge := HHI.out hi' hin (Nat.le_refl _)
        by_cases heq : ps[hi'].1 = bt
        · have e0 : cmpI (ps[hi'].1 : Int) (bt : Int) = 0 := by rw [cmpI, heq, if_neg (by omega), if_neg (by omega)]
          rw [e0] at hcall
          have HF : Hid (foundAt ps hi' bt = true) := by
            show foundAt ps hi' bt = true
            rw [foundAt, dif_pos hin]; simpa using heq
          clear e0 heq hcc c1 c2 hge
          generalize (ps[hi'].1 : Int) = x1 at hcall d1
          generalize (ps[hi'].2 : Int) = x2 at hcall d2
          go_wp2_with fail
          refine hcall.mono ?_
          rintro e w3 ⟨rfl, hb3⟩
          have hb' : Below w.heap.size w w3 := hbel.trans (hb3.mono hs0)
          go_wp2
          go_ret2
          refine ⟨?_, hb'⟩
          rw [HF.out]
          rfl
        · have e0 : cmpI (ps[hi'].1 : Int) (bt : Int) = 1 := by rw [cmpI, if_neg (by omega), if_pos (by omega)]
          rw [e0] at hcall
          have HF : Hid (foundAt ps hi' bt = false) := by
            show foundAt ps hi' bt = false
            rw [foundAt, dif_pos hin]; simpa using heq
          clear e0 heq hcc c1 c2 hge
          generalize (ps[hi'].1 : Int) = x1 at hcall d1
          generalize (ps[hi'].2 : Int) = x2 at hcall d2
          go_wp2_with fail
          refine hcall.mono ?_
          rintro e w3 ⟨rfl, hb3⟩
          have hb' : Below w.heap.size w w3 := hbel.trans (hb3.mono hs0)
          go_wp2
          go_ret2
          refine ⟨?_, hb'⟩
          rw [HF.out]
          rfl
      · have HF : Hid (foundAt ps hi' bt = false) := by
          show foundAt ps hi' bt = false
          rw [foundAt, dif_neg hin]
        go_wp2
        go_ret2
        refine ⟨?_, hbel⟩
        rw [HF.out]
        rfl
end Go.Proofs.Qxb6604512a
