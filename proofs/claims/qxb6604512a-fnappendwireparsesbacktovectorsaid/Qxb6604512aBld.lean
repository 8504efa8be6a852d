import Derived.Test.Qxb6604512aBuild
namespace Go.Proofs.Qxb6604512a
open Go.RowKit
set_option linter.unusedVariables false

/-- no list in it is too long -/
def Sized (es : List Ent) : Prop := es.length ≤ 1048576 ∧ ∀ e ∈ es, e.1.length ≤ 1048576 ∧ e.2.length ≤ 1048576 ∧ ∀ c ∈ e.1, c.2.length ≤ 1048576

set_option maxRecDepth 100000 in
set_option maxHeartbeats 4000000 in
theorem build_calls (ok : Nat → Prop) (w : World) (v : Value) (es : List Ent) (h : RE ok w v es) (hok : ∀ b, ok b → b < w.heap.size) (hsz : Sized es) : Calls Try.prog 13 #[v] w (BuildPost es w) := by
  obtain ⟨a, cap, rfl, hn, hc⟩ := h
  obtain ⟨hlen, hsz⟩ := hsz
  go_enter Try.func13, Try.ntmps13
  go_wp2_with fail
  refine (newSV_calls w).mono ?_
  rintro e w1 ⟨rfl, rfl⟩
  go_wp2_with fail
  go_loopw [4] (fun i wr => ∃ (k : Nat) (vm : Value) (cells : List Value), i = .int .i64 k ∧ k ≤ es.length ∧ BInv es w wr k vm cells) (fun i _ => es.length - (intOf i).toNat)
  case atStart =>
    exact ⟨0, .slice none 0 0, [], rfl, Nat.zero_le _, (Below.refl _ _).alloc (Nat.le_refl _) _, by simp, by simp, by simp, World.ownsRow_nil _ _ _ _, by intro i h h'; omega⟩
  case round =>
    obtain ⟨k, vm, cells, rfl, hk, hinv⟩ := hrel
    obtain ⟨w0, hw0⟩ : ∃ w0, w0 = wr := ⟨_, rfl⟩
    subst hw0
    by_cases hlt : k < es.length
    · obtain ⟨b, off, e, ok1, h5⟩ := hc (ne_nil_of_lt hlt)
      subst e
      obtain ⟨vn0, vp0, h7, h8, hrc, hrp⟩ := h5 k hlt
      have hb := hok b ok1
      have h7' := (hinv.bel.cell (p := ⟨b, off + k * 2, none⟩) hb).trans h7
      obtain ⟨hz1, hz2, hz3⟩ := hsz es[k] (List.getElem_mem hlt)
      have hlt0 := hinv.lt
      obtain ⟨an, cn, rfl⟩ : ∃ an cn, vn0 = .slice an es[k].1.length cn := by
        obtain ⟨av, cv, e, _⟩ := hrc
        exact ⟨av, cv, e⟩
      obtain ⟨ap, cp, rfl⟩ : ∃ ap cp, vp0 = .slice ap es[k].2.length cp := by
        obtain ⟨av, cv, e, _⟩ := hrp
        exact ⟨av, cv, e⟩
      go_wp2_with fail
      refine (split_calls ok w0 _ es[k].1 (hrc.kept (fun b hb => hinv.bel.block b (hok b hb)) (fun _ h => h)) (fun b hb => by have := hok b hb; omega) hz1 hz3).mono ?_
      rintro e wa ⟨vt, vv, rfl, hba, hrt⟩
      have hsa := hba.size
      have hbw : Below w.heap.size w wa := hinv.bel.trans (hba.mono (by omega))
      have hcA := keepS hinv.cell hinv.froz hinv.lt hba
      go_wp2_with fail
      refine (addMember_calls (fun b => w0.heap.size ≤ b ∧ b < wa.heap.size) w.heap.size (w.heap.size + 1) k vm cells es[k].1 vt vv wa hcA.1 hcA.2 (own_below hinv.own hba) (by omega) (fun e => by have := (hinv.own.lt _ e).1; omega) hrt (fun b hb => ⟨hb.2, by omega, fun e => by have := (hinv.own.lt _ e).2; omega⟩) hz1 (by omega)).mono ?_
      rintro e wb ⟨rfl, vm', vn, hadd⟩
      obtain ⟨Bm, cm, rfl, hBm1, hBm2⟩ := hadd.own.form (by omega)
      have hsb := hadd.kept.size
      have hbwb : Below w.heap.size w wb := ⟨hadd.kept.os.trans hbw.os, hadd.kept.tape.trans hbw.tape, hadd.kept.output.trans hbw.output, by have := hbw.size; omega, fun b hb => (hadd.kept.block b (by omega) (by simp; omega) (fun e => by have := (hinv.own.lt _ e).1; omega)).trans (hbw.block b hb)⟩
      have h8' := (hbwb.cell (p := ⟨b, off + k * 2 + 1, none⟩) hb).trans h8
      have hP0 : PInv w wb wb k 0 Bm cm cells vn (.slice none 0 0) es[k].2 := ⟨hbwb, Nat.le_refl _, hadd.cell, hadd.froz, hadd.own, World.ownsRow_nil _ _ _ _, fun _ _ _ => rfl⟩
      obtain ⟨aP, capP, eP, hnilP, hcP⟩ := hrp
      cases eP
      have hps : ∀ p ∈ es[k].2, p.1 < 18446744073709551616 ∧ p.2 < 18446744073709551616 := by
        intro p hp
        obtain ⟨i, hi, rfl⟩ := List.getElem_of_mem hp
        obtain ⟨b', off', e, ok2, h6⟩ := hcP (ne_nil_of_lt hi)
        exact ⟨(h6 i hi).1, (h6 i hi).2.1⟩
      have HCL : Hid (∀ wc vq, PInv w wb wc k es[k].2.length Bm cm cells vn vq es[k].2 → BInv es w wc (k + 1) (.slice (some ⟨Bm, 0, none⟩) (k + 1) cm) (cells ++ [vn, vq])) := fun wc vq hp => binv_close hlt hinv hba hadd hp hps
      go_wp2_with fail
      go_loopw [8] (fun i wr => ∃ (j : Nat) (vq : Value), i = .int .i64 j ∧ j ≤ es[k].2.length ∧ PInv w wb wr k j Bm cm cells vn vq es[k].2) (fun i _ => es[k].2.length - (intOf i).toNat)
      case atStart => exact ⟨0, _, rfl, Nat.zero_le _, hP0⟩
      case round =>
        obtain ⟨j, vq, rfl, hj, hpinv⟩ := hrel
        obtain ⟨w3, hw3⟩ : ∃ w3, w3 = wr := ⟨_, rfl⟩
        subst hw3
        by_cases hjl : j < es[k].2.length
        · obtain ⟨b', off', e, ok2, h6⟩ := hcP (ne_nil_of_lt hjl)
          subst e
          obtain ⟨p1, p2, d1, d2⟩ := h6 j hjl
          have hb' := hok b' ok2
          have d1' := (hpinv.bel.cell (p := ⟨b', off' + j * 2, none⟩) hb').trans d1
          have d2' := (hpinv.bel.cell (p := ⟨b', off' + j * 2 + 1, none⟩) hb').trans d2
          have hjI : (j : Int) < es[k].2.length := by omega
          have hcall := addSeq_calls w.heap.size (w.heap.size + 1) wb.heap.size k j Bm cm cells (pairCells (es[k].2.take j)) vn vq es[k].2[j].1 es[k].2[j].2 (w3.drewN 1) hpinv.cell hpinv.froz hpinv.own hpinv.seqs hBm2 (by omega) (by omega) hpinv.size (by omega) (by omega)
          have hP1 : PInv w wb (w3.drewN 1) k j Bm cm cells vn vq es[k].2 := ⟨belowDrewN hpinv.bel 1, hpinv.size, hpinv.cell, hpinv.froz, hpinv.own, hpinv.seqs, hpinv.low⟩
          have HN : Hid (∀ e w', AddSeqPost w.heap.size (w.heap.size + 1) wb.heap.size k j Bm cm cells (pairCells (es[k].2.take j)) vn vq es[k].2[j].1 es[k].2[j].2 (w3.drewN 1) e w' → e = .returned (.tuple #[]) ∧ Below w.heap.size w w' ∧ ∃ vq', PInv w wb w' k (j + 1) Bm cm cells vn vq' es[k].2) := fun e w' hp => pinv_next hP1 hjl (by omega) (by omega) hp
          obtain ⟨p, hp⟩ : ∃ p, p = es[k].2[j] := ⟨_, rfl⟩
          rw [← hp] at p1 p2 d1 d2 d1' d2' hcall HN
          clear hp h6
          go_wp2
          go_region_held3 (fun w' => w'.cell? ⟨b', off' + j * 2, none⟩ = some (.int .u64 (p.1 : Int)) ∧ w'.cell? ⟨b', off' + j * 2 + 1, none⟩ = some (.int .u64 (p.2 : Int))) (first | (go_keep; done) | exact ⟨(hbel'.cell (p := ⟨b', off' + j * 2, none⟩) hb').trans d1, (hbel'.cell (p := ⟨b', off' + j * 2 + 1, none⟩) hb').trans d2⟩ | fail) (first
            | (go_at_call 31; refine hcall.mono ?_; intro e w4 hpost; obtain ⟨rfl, hbel', vq', hP'⟩ := HN.out e w4 hpost)
            | fail)
          go_wp2
          go_roundw
          case rel => exact ⟨j + 1, vq', by go_num, by omega, hP'⟩
          case measure => simp [intOf]; omega
        · have hjE : j = es[k].2.length := by omega
          rw [hjE] at hpinv
          have hB := HCL.out _ _ hpinv
          go_wp2
          go_roundw
          case rel => exact ⟨k + 1, _, _, by go_num, by omega, hB⟩
          case measure => simp [intOf]; omega
    · have hkl : k = es.length := by omega
      rw [hkl] at hinv
      go_wp2
      go_ret
      exact ⟨w.heap.size, vm, rfl, hinv.bel, hinv.cell, binv_done hinv, rfl⟩
end Go.Proofs.Qxb6604512a
