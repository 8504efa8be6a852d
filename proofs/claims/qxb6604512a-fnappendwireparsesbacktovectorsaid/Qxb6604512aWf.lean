import Derived.Test.Qxb6604512aCmp
namespace Go.Proofs.Qxb6604512a
open Go.RowKit
set_option linter.unusedVariables false

/-- names strictly increasing, bootstrap times strictly increasing within a name -/
def WF (es : List Ent) : Prop :=
  (∀ i (h : i + 1 < es.length), cmpN es[i].1 es[i + 1].1 < 0) ∧ ∀ i (h : i < es.length), ∀ j (hj : j + 1 < es[i].2.length), es[i].2[j].1 < es[i].2[j + 1].1

def WfPost (es : List Ent) (w : World) (e : Ending) (w' : World) : Prop := ∃ r : Bool, e = .returned (.bool r) ∧ (r = true → WF es) ∧ Below w.heap.size w w'

set_option maxRecDepth 100000 in
set_option maxHeartbeats 4000000 in
theorem wellFormed_calls (ok : Nat → Prop) (w : World) (v : Value) (es : List Ent) (h : RE ok w v es) (hok : ∀ b, ok b → b < w.heap.size) (hsz : Sized es) : Calls Try.prog 12 #[v] w (WfPost es w) := by
  obtain ⟨a, cap, rfl, hn, hc⟩ := h
  obtain ⟨hlen, hsz⟩ := hsz
  go_enter Try.func12, Try.ntmps12
  go_wp2
  go_loopw [3] (fun t wr => ∃ (k : Nat), t = .int .i64 k ∧ 1 ≤ k ∧ (k ≤ es.length ∨ k = 1) ∧ Below w.heap.size w wr ∧ ∀ i (h : i + 1 < es.length), i + 1 < k → cmpN es[i].1 es[i + 1].1 < 0) (fun t _ => es.length - (intOf t).toNat)
  case atStart => exact ⟨1, rfl, Nat.le_refl _, .inr rfl, Below.refl _ _, by intro i h h'; omega⟩
  case round =>
    obtain ⟨k, rfl, hk1, hk, hbel, hall⟩ := hrel
    obtain ⟨w0, hw0⟩ : ∃ w0, w0 = wr := ⟨_, rfl⟩
    subst hw0
    have hs0 := hbel.size
    by_cases hlt : k < es.length
    · obtain ⟨m, hkm⟩ : ∃ m, m + 1 = k := ⟨k - 1, by omega⟩
      have hm : m < es.length := by omega
      obtain ⟨b, off, e, ok1, h5⟩ := hc (ne_nil_of_lt hlt)
      subst e
      have hb := hok _ ok1
      obtain ⟨v1, u1, p1, p2, p3, p4⟩ := h5 m hm
      obtain ⟨v2, u2, q1, q2, q3, q4⟩ := h5 k hlt
      obtain ⟨lx, _, lx2⟩ := hsz _ (List.getElem_mem hm)
      obtain ⟨ly, _, ly2⟩ := hsz _ (List.getElem_mem hlt)
      have hI1 : (m : Int) < es.length := by omega
      have hI2 : (k : Int) < es.length := by omega
      obtain ⟨X, hX⟩ : ∃ X, X = es[m] := ⟨_, rfl⟩
      obtain ⟨Y, hY⟩ : ∃ Y, Y = es[k] := ⟨_, rfl⟩
      rw [← hX] at p3 lx lx2
      rw [← hY] at q3 ly ly2
      have HX : Hid (X = es[m]) := hX
      have HY : Hid (Y = es[k]) := hY
      clear hX hY h5 p4 q4
      obtain ⟨a1, c1, rfl⟩ : ∃ a1 c1, v1 = .slice a1 X.1.length c1 := by
        obtain ⟨a1, c1, e, _⟩ := p3
        exact ⟨a1, c1, e⟩
      obtain ⟨a2, c2, rfl⟩ : ∃ a2 c2, v2 = .slice a2 Y.1.length c2 := by
        obtain ⟨a2, c2, e, _⟩ := q3
        exact ⟨a2, c2, e⟩
      have p1' := (hbel.cell (p := ⟨b, off + m * 2, none⟩) hb).trans p1
      have q1' := (hbel.cell (p := ⟨b, off + k * 2, none⟩) hb).trans q1
      have hcall := compName_calls ok (w0.drewN 1) X.1 Y.1 (.slice a1 X.1.length c1) (.slice a2 Y.1.length c2) (p3.kept (fun b hb => hbel.block b (hok b hb)) (fun _ h => h)) (q3.kept (fun b hb => hbel.block b (hok b hb)) (fun _ h => h)) (fun b hb => by have := hok b hb; show b < w0.heap.size; omega) lx ly lx2 ly2
      have i4 : (k : Int) - 1 = (m : Int) := by omega
      have i6 : IntKind.i64.wrap (m : Int) = (m : Int) := by rw [IntKind.wrap_i64]; omega
      have HALL : Hid (∀ i (h : i + 1 < es.length), i + 1 < k → cmpN es[i].1 es[i + 1].1 < 0) := hall
      have HKM : Hid (m + 1 = k) := hkm
      clear p3 q3 hall hc hn hkm
      go_wp2
      go_region_held3 (fun w' => w'.cell? ⟨b, off + m * 2, none⟩ = some (.slice a1 X.1.length c1) ∧ w'.cell? ⟨b, off + k * 2, none⟩ = some (.slice a2 Y.1.length c2)) (first | (go_keep; done) | exact ⟨(hb'.cell (p := ⟨b, off + m * 2, none⟩) hb).trans p1, (hb'.cell (p := ⟨b, off + k * 2, none⟩) hb).trans q1⟩ | fail) (first
        | (go_at_call 22; refine hcall.mono ?_; rintro e w3 ⟨rfl, hb3⟩; have hb' : Below w.heap.size w w3 := (belowDrewN hbel 1).trans (hb3.mono hs0))
        | fail)
      by_cases hz : cmpN X.1 Y.1 < 0
      · have hz' : ¬ 0 ≤ cmpN X.1 Y.1 := by omega
        go_wp2
        go_roundw
        case rel =>
          refine ⟨k + 1, by go_num, by omega, .inl (by omega), hb', fun i hi hik => ?_⟩
          by_cases e : i = m
          · have hkm := HKM.out
            have e1 : X = es[i] := by rw [HX.out]; simp only [e]
            have e2 : Y = es[i + 1] := by rw [HY.out]; simp only [e, hkm]
            rw [← e1, ← e2]
            exact hz
          · exact HALL.out i hi (by have := HKM.out; omega)
        case measure => simp [intOf]; omega
      · have hz' : 0 ≤ cmpN X.1 Y.1 := by omega
        go_wp2
        go_ret
        exact ⟨false, rfl, by simp, hb'⟩
    · have HALL : Hid (∀ i (h : i + 1 < es.length), cmpN es[i].1 es[i + 1].1 < 0) := fun i hi => hall i hi (by omega)
      clear hall
      go_wp2
      go_loopw [4] (fun t wr => ∃ (k : Nat), t = .int .i64 k ∧ k ≤ es.length ∧ Below w.heap.size w wr ∧ ∀ i (h : i < es.length), i < k → ∀ j (hj : j + 1 < es[i].2.length), es[i].2[j].1 < es[i].2[j + 1].1) (fun t _ => es.length - (intOf t).toNat)
      case atStart => exact ⟨0, rfl, Nat.zero_le _, hbel, by intro i h h'; omega⟩
      case round =>
        obtain ⟨q, rfl, hq, hbel2, hall2⟩ := hrel
        obtain ⟨w2, hw2⟩ : ∃ w2, w2 = wr := ⟨_, rfl⟩
        subst hw2
        by_cases hlq : q < es.length
        · obtain ⟨b, off, e, ok1, h5⟩ := hc (ne_nil_of_lt hlq)
          subst e
          have hb := hok _ ok1
          obtain ⟨v1, u1, p1, p2, p3, ⟨aP, cP, rfl, hnP, hcP⟩⟩ := h5 q hlq
          have p2' := (hbel2.cell (p := ⟨b, off + q * 2 + 1, none⟩) hb).trans p2
          obtain ⟨_, lp, _⟩ := hsz _ (List.getElem_mem hlq)
          obtain ⟨ps, hps⟩ : ∃ ps, ps = es[q].2 := ⟨_, rfl⟩
          rw [← hps] at p2 p2' hcP hnP lp
          have HPS : Hid (ps = es[q].2) := hps
          have HAL2 : Hid (∀ i (h : i < es.length), i < q → ∀ j (hj : j + 1 < es[i].2.length), es[i].2[j].1 < es[i].2[j + 1].1) := hall2
          clear hps h5 p3 hall2 hc hn
          go_wp2
          go_loopw [6] (fun t wr => ∃ (k : Nat), t = .int .i64 k ∧ 1 ≤ k ∧ (k ≤ ps.length ∨ k = 1) ∧ Below w.heap.size w wr ∧ ∀ j (hj : j + 1 < ps.length), j + 1 < k → ps[j].1 < ps[j + 1].1) (fun t _ => ps.length - (intOf t).toNat)
          case atStart => exact ⟨1, rfl, Nat.le_refl _, .inr rfl, hbel2, by intro i h h'; omega⟩
          case round =>
            obtain ⟨r, rfl, hr1, hr, hbel3, hall3⟩ := hrel
            obtain ⟨w3, hw3⟩ : ∃ w3, w3 = wr := ⟨_, rfl⟩
            subst hw3
            have HAL3 : Hid (∀ j (hj : j + 1 < ps.length), j + 1 < r → ps[j].1 < ps[j + 1].1) := hall3
            clear hall3
            by_cases hlr : r < ps.length
            · obtain ⟨m, hkm⟩ : ∃ m, m + 1 = r := ⟨r - 1, by omega⟩
              have hm : m < ps.length := by omega
              obtain ⟨b', off', e, ok2, h6⟩ := hcP (ne_nil_of_lt hlr)
              subst e
              have hb' := hok _ ok2
              have d1 := (hbel3.cell (p := ⟨b', off' + m * 2, none⟩) hb').trans (h6 m hm).2.2.1
              have d2 := (hbel3.cell (p := ⟨b', off' + r * 2, none⟩) hb').trans (h6 r hlr).2.2.1
              have i4 : (r : Int) - 1 = (m : Int) := by omega
              have i6 : IntKind.i64.wrap (m : Int) = (m : Int) := by rw [IntKind.wrap_i64]; omega
              have hI1 : (m : Int) < ps.length := by omega
              have hI2 : (r : Int) < ps.length := by omega
              obtain ⟨X, hX⟩ : ∃ X, X = ps[m].1 := ⟨_, rfl⟩
              obtain ⟨Y, hY⟩ : ∃ Y, Y = ps[r].1 := ⟨_, rfl⟩
              rw [← hX] at d1
              rw [← hY] at d2
              have HX : Hid (X = ps[m].1) := hX
              have HY : Hid (Y = ps[r].1) := hY
              have HKM : Hid (m + 1 = r) := hkm
              clear hX hY h6 hkm hcP hnP
              by_cases hz : X < Y
              · have hz' : ¬ (Y : Int) ≤ X := by omega
                go_wp2
                go_quiet (fail)
                go_wp2
                go_roundw
                case rel =>
                  refine ⟨r + 1, by go_num, by omega, .inl (by omega), belowDrewN hbel3 _, fun j hj hjr => ?_⟩
                  have hkm := HKM.out
                  by_cases e : j = m
                  · have e1 : X = ps[j].1 := by rw [HX.out]; simp only [e]
                    have e2 : Y = ps[j + 1].1 := by rw [HY.out]; simp only [e, hkm]
                    rw [← e1, ← e2]
                    exact hz
                  · exact HAL3.out j hj (by omega)
                case measure => simp [intOf]; omega
              · have hz' : (Y : Int) ≤ X := by omega
                go_wp2
                go_quiet (fail)
                go_wp2
                go_ret
                exact ⟨false, rfl, by simp, belowDrewN hbel3 _⟩
            · clear hcP hnP
              go_wp2
              go_roundw
              case rel =>
                refine ⟨q + 1, by go_num, by omega, hbel3, fun i hi hiq => ?_⟩
                by_cases e : i = q
                · subst e
                  intro j hj
                  have := HAL3.out j (by rw [HPS.out]; exact hj) (by rw [HPS.out] at hlr; omega)
                  simpa only [HPS.out] using this
                · exact HAL2.out i hi (by omega)
              case measure => simp [intOf]; omega
        · have HW : Hid (WF es) := ⟨HALL.out, fun i hi => hall2 i hi (by omega)⟩
          clear hall2
          go_wp2
          go_ret
          exact ⟨true, rfl, fun _ => HW.out, hbel2⟩
end Go.Proofs.Qxb6604512a
