import Derived.Test.Qxb6604512aSrch
namespace Go.Proofs.Qxb6604512a
open Go.RowKit
set_option linter.unusedVariables false

set_option maxRecDepth 100000 in
theorem find43_calls (ok : Nat → Prop) (w : World) (Bs : Nat) (vm vt : Value) (es : List Ent) (cs : List (Nat × List UInt8)) (i : Nat) (hcell : w.cell? ⟨Bs, 0, none⟩ = some vm) (hm : RE ok w vm es) (ht : RC ok w vt cs) (hok : ∀ b, ok b → b < w.heap.size) (hsz : Sized es) (hcl : cs.length ≤ 1048576)
    (hi : i < es.length) (hlo : ∀ t (h : t < es.length), t < i → cmpN es[t].1 cs < 0) (heq : cmpN es[i].1 cs = 0) (hhi : ∀ t (h : t < es.length), i < t → 0 < cmpN es[t].1 cs) :
    Calls Try.prog 43 #[.pointer (some ⟨Bs, 0, none⟩), vt] w (SrchPost i true w) := by
  have hcall := searchName_calls ok w vm vt es cs i hm ht hok hsz hcl hi hlo heq hhi
  clear hlo heq hhi
  go_enter Try.func43, Try.ntmps43
  go_wp2_with fail
  refine hcall.mono ?_
  rintro e w' ⟨rfl, hb⟩
  go_wp2
  go_ret2
  exact ⟨rfl, hb⟩

set_option maxRecDepth 100000 in
theorem find44_calls (ok : Nat → Prop) (w : World) (B o : Nat) (vp : Value) (ps : List (Nat × Nat)) (bt p : Nat) (hcell : w.cell? ⟨B, o + 1, none⟩ = some vp) (hp : RP ok w vp ps) (hok : ∀ b, ok b → b < w.heap.size) (hlen : ps.length ≤ 1048576)
    (hpl : p ≤ ps.length) (hlo : ∀ t (h : t < ps.length), t < p → ps[t].1 < bt) (hhi : ∀ t (h : t < ps.length), p ≤ t → bt ≤ ps[t].1) :
    Calls Try.prog 44 #[.pointer (some ⟨B, o, none⟩), .int .u64 (bt : Int)] w (SrchPost p (foundAt ps p bt) w) := by
  have hcall := searchBoot_calls ok w vp ps bt p hp hok hlen hpl hlo hhi
  clear hlo hhi
  generalize foundAt ps p bt = r at hcall ⊢
  go_enter Try.func44, Try.ntmps44
  go_wp2_with fail
  refine hcall.mono ?_
  rintro e w' ⟨rfl, hb⟩
  go_wp2
  go_ret2
  exact ⟨rfl, hb⟩

def lookAt (ps : List (Nat × Nat)) (p bt : Nat) : Nat := if h : p < ps.length then (if ps[p].1 = bt then ps[p].2 else 0) else 0

def SeqPost (n : Nat) (w : World) (e : Ending) (w' : World) : Prop := e = .returned (.int .u64 (n : Int)) ∧ Below w.heap.size w w'

set_option maxRecDepth 100000 in
set_option maxHeartbeats 4000000 in
theorem seq_calls (ok : Nat → Prop) (w : World) (Bs : Nat) (vm vt : Value) (es : List Ent) (i bt p : Nat) (hcell : w.cell? ⟨Bs, 0, none⟩ = some vm) (hm : RE ok w vm es) (hi : i < es.length) (ht : RC ok w vt es[i].1) (hok : ∀ b, ok b → b < w.heap.size) (hsz : Sized es)
    (hwf : WF es) (hpl : p ≤ es[i].2.length) (hlo : ∀ t (h : t < es[i].2.length), t < p → es[i].2[t].1 < bt) (hhi : ∀ t (h : t < es[i].2.length), p ≤ t → bt ≤ es[i].2[t].1) :
    Calls Try.prog 32 #[.pointer (some ⟨Bs, 0, none⟩), vt, .int .u64 (bt : Int)] w (SeqPost (lookAt es[i].2 p bt) w) := by
  obtain ⟨lx, lp, _⟩ := hsz.2 _ (List.getElem_mem hi)
  have hBs := World.block_lt_of_cell? w _ hcell
  have hcall := find43_calls ok w Bs vm vt es es[i].1 i hcell hm ht hok hsz lx hi (fun t h h' => hwf.names i t h' hi) (cmpN_self _) (fun t h h' => by have := hwf.names t i h' h; have := cmpN_anti es[i].1 es[t].1; omega)
  obtain ⟨a, cap, rfl, hn, hc⟩ := hm
  obtain ⟨b, off, e, okb, hcc⟩ := hc (ne_nil_of_lt hi)
  subst e
  have hb := hok _ okb
  obtain ⟨vn, vp, c1, c2, hrc, hrp⟩ := hcc i hi
  generalize es[i].2 = P at hpl hlo hhi hrp lp ⊢
  have hIL : (i : Int) < es.length := by omega
  have hlen := hsz.1
  clear hcc hc hn hrc ht hwf hsz lx c1
  go_enter Try.func32, Try.ntmps32
  go_wp2_with fail
  refine hcall.mono ?_
  rintro e w1 ⟨rfl, hb1⟩
  have hs1 := hb1.size
  have d0 := (hb1.cell (p := ⟨Bs, 0, none⟩) hBs).trans hcell
  have d2 := (hb1.cell (p := ⟨b, off + i * 2 + 1, none⟩) hb).trans c2
  have hrp1 := hrp.kept (w' := w1) (fun b hb => hb1.block b (hok b hb)) (fun _ h => h)
  have hcall2 := find44_calls ok w1 b (off + i * 2) vp P bt p d2 hrp1 (fun b hb => by have := hok b hb; omega) lp hpl hlo hhi
  clear hlo hhi hcall
  go_wp2_with fail
  refine hcall2.mono ?_
  rintro e w2 ⟨rfl, hb2⟩
  have hbw2 : Below w.heap.size w w2 := hb1.trans (hb2.mono hs1)
  have f2 := (hbw2.cell (p := ⟨b, off + i * 2 + 1, none⟩) hb).trans c2
  have hrp2 := hrp.kept (w' := w2) (fun b hb => hbw2.block b (hok b hb)) (fun _ h => h)
  clear hcall2 hrp hrp1 d2 c2 d0 hcell
  by_cases hin : p < P.length
  · by_cases heq : P[p].1 = bt
    · have hf : foundAt P p bt = true := by rw [foundAt, dif_pos hin]; simpa using heq
      have HL : Hid (lookAt P p bt = P[p].2) := by show lookAt P p bt = P[p].2; rw [lookAt, dif_pos hin, if_pos heq]
      rw [hf]
      obtain ⟨ap, cp, rfl, _, hcp⟩ := hrp2
      obtain ⟨b2, off2, e, okb2, hcc⟩ := hcp (ne_nil_of_lt hin)
      subst e
      obtain ⟨_, _, g1, g2⟩ := hcc p hin
      have hpI : (p : Int) < P.length := by omega
      clear hcc hcp hf heq
      go_wp2
      go_ret
      refine ⟨?_, hbw2⟩
      rw [HL.out]
      rfl
    · have hf : foundAt P p bt = false := by rw [foundAt, dif_pos hin]; simpa using heq
      have HL : Hid (lookAt P p bt = 0) := by show lookAt P p bt = 0; rw [lookAt, dif_pos hin, if_neg heq]
      rw [hf]
      clear hf heq
      go_wp2
      go_ret
      refine ⟨?_, hbw2⟩
      rw [HL.out]
      rfl
  · have hf : foundAt P p bt = false := by rw [foundAt, dif_neg hin]
    have HL : Hid (lookAt P p bt = 0) := by show lookAt P p bt = 0; rw [lookAt, dif_neg hin]
    rw [hf]
    clear hf
    go_wp2
    go_ret
    refine ⟨?_, hbw2⟩
    rw [HL.out]
    rfl

set_option maxRecDepth 100000 in
theorem zzseq_calls (ok : Nat → Prop) (w : World) (Bs : Nat) (vm vt vv : Value) (es : List Ent) (i bt p : Nat) (hcell : w.cell? ⟨Bs, 0, none⟩ = some vm) (hm : RE ok w vm es) (hi : i < es.length) (ht : RT ok w vt vv es[i].1) (hok : ∀ b, ok b → b < w.heap.size) (hsz : Sized es)
    (hwf : WF es) (hpl : p ≤ es[i].2.length) (hlo : ∀ t (h : t < es[i].2.length), t < p → es[i].2[t].1 < bt) (hhi : ∀ t (h : t < es[i].2.length), p ≤ t → bt ≤ es[i].2[t].1) :
    Calls Try.prog 15 #[.pointer (some ⟨Bs, 0, none⟩), vt, vv, .int .u64 (bt : Int)] w (SeqPost (lookAt es[i].2 p bt) w) := by
  obtain ⟨lx, lp, _⟩ := hsz.2 _ (List.getElem_mem hi)
  have hBs := World.block_lt_of_cell? w _ hcell
  have hcall1 := name_calls ok w vt vv es[i].1 ht hok lx
  have hall : ∀ w1 vn, Below w.heap.size w w1 → RC (fun b => ok b ∨ (w.heap.size ≤ b ∧ b < w1.heap.size)) w1 vn es[i].1 → Calls Try.prog 32 #[.pointer (some ⟨Bs, 0, none⟩), vn, .int .u64 (bt : Int)] w1 (SeqPost (lookAt es[i].2 p bt) w1) := by
    intro w1 vn hb1 hrc
    have hs1 := hb1.size
    have hok1 : ∀ b, (ok b ∨ (w.heap.size ≤ b ∧ b < w1.heap.size)) → b < w1.heap.size := by
      intro b hb
      rcases hb with h | h
      · have := hok b h
        omega
      · omega
    exact seq_calls (fun b => ok b ∨ (w.heap.size ≤ b ∧ b < w1.heap.size)) w1 Bs vm vn es i bt p ((hb1.cell (p := ⟨Bs, 0, none⟩) hBs).trans hcell) (hm.kept (fun b hb => hb1.block b (hok b hb)) (fun _ h => .inl h)) hi hrc hok1 hsz hwf hpl hlo hhi
  generalize lookAt es[i].2 p bt = r at hall ⊢
  generalize es[i].1 = X at hall hcall1
  clear hlo hhi hpl hwf hm ht hcell
  go_enter Try.func15, Try.ntmps15
  go_wp2_with fail
  refine hcall1.mono ?_
  rintro e w1 ⟨vn, rfl, hb1, hrc⟩
  have hs1 := hb1.size
  go_wp2_with fail
  refine (hall w1 vn hb1 hrc).mono ?_
  rintro e w2 ⟨rfl, hb2⟩
  go_wp2
  go_ret
  exact ⟨rfl, hb1.trans (hb2.mono hs1)⟩
end Go.Proofs.Qxb6604512a
