import Derived.Test.Qxb6604467aSpec
import Derived.Deep.QuietTactic
import Derived.BigQuiet
import Derived.LaidEqlPtr
namespace Go.Proofs.Qxb6604467a
open Go.RowKit
open Classical
set_option linter.unusedVariables false

def LawPost (w : World) (e : Ending) (w' : World) : Prop := e = .returned (.bool true) ∧ Below w.heap.size w w'

def ValIs (v : Value) (w : World) (e : Ending) (w' : World) : Prop := e = .returned v ∧ w' = w

theorem specApp_calls (Bs : Nat) (p : Value) (w : World) (h : w.cell? ⟨Bs, 0, none⟩ = some p) : Calls Try.prog 25 #[.pointer (some ⟨Bs, 0, none⟩)] w (ValIs p w) := by
  go_enter Try.func25, Try.ntmps25
  go_wp2
  go_ret
  exact ⟨rfl, rfl⟩
theorem specInitial_calls (Bs : Nat) (p : Value) (w : World) (h : w.cell? ⟨Bs, 2, none⟩ = some p) : Calls Try.prog 26 #[.pointer (some ⟨Bs, 0, none⟩)] w (ValIs p w) := by
  go_enter Try.func26, Try.ntmps26
  go_wp2
  go_ret
  exact ⟨rfl, rfl⟩
theorem specObjects_calls (Bs : Nat) (p : Value) (w : World) (h : w.cell? ⟨Bs, 3, none⟩ = some p) : Calls Try.prog 27 #[.pointer (some ⟨Bs, 0, none⟩)] w (ValIs p w) := by
  go_enter Try.func27, Try.ntmps27
  go_wp2
  go_ret
  exact ⟨rfl, rfl⟩
theorem specOps_calls (Bs : Nat) (p : Value) (w : World) (h : w.cell? ⟨Bs, 1, none⟩ = some p) : Calls Try.prog 28 #[.pointer (some ⟨Bs, 0, none⟩)] w (ValIs p w) := by
  go_enter Try.func28, Try.ntmps28
  go_wp2
  go_ret
  exact ⟨rfl, rfl⟩

theorem run_neq_ptr_same {P : Program} (w : World) {tp te : TypeId} {j : TypeInfo} (a : Addr) (hp : P.underlying tp = some (.pointer te)) (hte : P.info? te = some j) :
    (binOp .neq tp (.pointer (some a)) (.pointer (some a))).run P w = .ok (.bool false) w := by
  have h : ∀ d : Nat, (Op.equalIn (d + 1) tp (.pointer (some a)) (.pointer (some a))).run P w = .ok true w := fun d => by
    simp [Op.equalIn, run_underlying hp, sizeOf, typeInfo, hte, run_sameAddr_same]
  simp only [binOp]
  simp [Op.equal, Op.maxDepth, h 9999]

theorem neq53 (w : World) (a : Addr) : (binOp .neq 53 (.pointer (some a)) (.pointer (some a))).run Try.prog w = .ok (.bool false) w := by
  obtain ⟨j, hj⟩ : ∃ j, Try.prog.info? 99 = some j := Option.isSome_iff_exists.1 (by kernel_rfl)
  exact run_neq_ptr_same w a Try.underlying53 hj
theorem neq45 (w : World) (a : Addr) : (binOp .neq 45 (.pointer (some a)) (.pointer (some a))).run Try.prog w = .ok (.bool false) w := by
  obtain ⟨j, hj⟩ : ∃ j, Try.prog.info? 88 = some j := Option.isSome_iff_exists.1 (by kernel_rfl)
  exact run_neq_ptr_same w a Try.underlying45 hj

theorem buildApp_any (ns : Nat) (hns : ns ≤ 1048576) (a : Option Addr) (b off cap : Nat) (ss : List ByteArray) (w : World) (h : IsStrs w a b off ss) (hnil : a = none → ss = [] ∧ cap = 0) (hlen : ss.length ≤ 1048576) (hb : ss ≠ [] → b < w.heap.size) :
    Calls Try.prog 23 #[.slice a ss.length cap, .int .i64 ns] w (BuildAppPost ns ss w) := by
  cases a with
  | none =>
    obtain ⟨rfl, rfl⟩ := hnil rfl
    exact buildApp_nil ns hns w
  | some x => exact buildApp_some ns hns x b off cap ss w h hlen hb

/-- what the last loop reads, in its world -/
structure R3 (a : Option Addr) (b off : Nat) (ss : List ByteArray) (ao : Option Addr) (bo : Nat) (Q : Nat → Nat) (Bm : Nat) (w wr : World) : Prop where
  bel : Below w.heap.size w wr
  strs : IsStrs wr a b off ss
  names : NamesIs wr ao bo Q ss
  map : MapFn Try.prog 9 wr Bm ss.length (lastCount ss) (upTo Q ss ss.length)

theorem R3.drewN {a : Option Addr} {b off : Nat} {ss : List ByteArray} {ao : Option Addr} {bo : Nat} {Q : Nat → Nat} {Bm : Nat} {w wr : World} (h : R3 a b off ss ao bo Q Bm w wr) (n : Nat) : R3 a b off ss ao bo Q Bm w (wr.drewN n) :=
  ⟨belowDrewN h.bel n, h.strs, h.names, h.map.of_block rfl⟩

theorem zeros_get (n i : Nat) (h : i < (zeros n).size) : (zeros n)[i] = 0 := by
  show (List.replicate n (0 : UInt8)).toArray[i] = 0
  simp

theorem size_zeros (n : Nat) : (zeros n).size = n := by
  show (List.replicate n (0 : UInt8)).toArray.size = n
  simp

theorem lastCount_step (ss : List ByteArray) (k : Nat) (h : k < ss.length) : lastCount (ss.drop k) = (if ss[k] ∈ ss.drop (k + 1) then 0 else 1) + lastCount (ss.drop (k + 1)) := by
  rw [List.drop_eq_getElem_cons h, lastCount_cons]

theorem mem_drop_of {ss : List ByteArray} {k j : Nat} (hk : k < ss.length) (hj : j < ss.length) (hkj : k < j) (e : ss[j] = ss[k]) : ss[k] ∈ ss.drop (k + 1) := by
  rw [← e, List.mem_drop_iff_getElem]
  exact ⟨j - (k + 1), by omega, by congr 1; omega⟩

theorem not_mem_drop_of {ss : List ByteArray} {k : Nat} (hk : k < ss.length) (h : ∀ j (hj : j < ss.length), k < j → ss[j] ≠ ss[k]) : ¬ ss[k] ∈ ss.drop (k + 1) := by
  rw [List.mem_drop_iff_getElem]
  rintro ⟨i, hi, e⟩
  exact h (k + 1 + i) (by omega) (by omega) e

set_option maxHeartbeats 4000000 in
theorem law3_walk (a : Option Addr) (b off cap : Nat) (ss : List ByteArray) (nsI : Int) (w : World) (h : IsStrs w a b off ss) (hnil : a = none → ss = [] ∧ cap = 0) (hb : ss ≠ [] → b < w.heap.size) (hlen : ss.length ≤ maxLen) :
    Calls Try.prog 6 #[.slice a ss.length cap, .int .i64 nsI] w (LawPost w) := by
  go_enter Try.func6, Try.ntmps6
  go_wp2_with fail
  refine (zzBytes21_calls nsI a b off cap ss w h hlen).mono ?_
  rintro e w' ⟨r, rfl, hr, hww⟩
  have hww := hww.symm
  subst hww
  cases r with
  | false =>
    go_wp2
    go_ret
    exact ⟨rfl, Below.refl _ _⟩
  | true =>
    have hbd := hr rfl
    clear hr
    unfold maxLen at hlen
    by_cases h40 : (4096 : Int) < ss.length
    · go_wp2
      go_ret
      exact ⟨rfl, Below.refl _ _⟩
    by_cases hn0 : nsI < 0
    · go_wp2
      go_ret
      exact ⟨rfl, Below.refl _ _⟩
    by_cases hn1 : 65536 < nsI
    · go_wp2
      go_ret
      exact ⟨rfl, Below.refl _ _⟩
    obtain ⟨ns, rfl⟩ : ∃ ns : Nat, nsI = ns := ⟨nsI.toNat, by omega⟩
    go_wp2_with fail
    refine (specBytes_calls ns a b off cap ss w h (by unfold maxLen; omega)).mono ?_
    rintro e w' ⟨⟨m1, rfl⟩, hww⟩
    have hww := hww.symm
    subst hww
    go_wp2_with fail
    · go_ret
      exact ⟨rfl, Below.refl _ _⟩
    refine (buildApp_any ns (by omega) a b off cap ss w h hnil (by omega) hb).mono ?_
    rintro e w1 ⟨Ba, ao, co, bo, Q, rfl, hb1, happ⟩
    have hs1 := hb1.size
    go_wp2_with fail
    refine (newSpec_calls Ba ns ao co bo Q ss w1 happ (by omega) (by omega) (by omega)).mono ?_
    rintro e w2 ⟨Bs, Bm, Bo, rfl, hb2, q0, q1, q2, q3, hmap, hobj⟩
    have hbw2 : Below w.heap.size w w2 := hb1.trans (hb2.mono hs1)
    have HR : R3 a b off ss ao bo Q Bm w w2 := ⟨hbw2, h.below hb hbw2, happ.2.2.below hb2, hmap⟩
    go_wp2_with fail
    refine (specApp_calls Bs _ w2 q0).mono ?_
    rintro e w' ⟨rfl, hww⟩
    have hww := hww.symm
    subst hww
    have hne53 := neq53
    go_wp2_with fail
    refine (specInitial_calls Bs _ w2 q2).mono ?_
    rintro e w' ⟨rfl, hww⟩
    have hww := hww.symm
    subst hww
    have hzs := size_zeros ns
    have hzg := zeros_get ns
    obtain ⟨z, hz⟩ : ∃ z, z = zeros ns := ⟨_, rfl⟩
    rw [← hz] at hzs hzg
    rw [← hz]
    have hzb : ((z.size : Int) == (ns : Int)) = true := beq_iff_eq.2 (by omega)
    clear hz
    go_wp2
    go_loopw [9] (fun i wr => ∃ k : Nat, i = .int .i64 k ∧ k ≤ ns ∧ wr = w2) (fun i _ => ns - (intOf i).toNat)
    case atStart => exact ⟨0, rfl, Nat.zero_le _, rfl⟩
    case round =>
      obtain ⟨k, rfl, hk, hwr⟩ := hrel
      have hwr := hwr.symm
      subst hwr
      by_cases hlt : k < ns
      · have hzk := hzg k (by omega)
        have hI : (k : Int) < z.size := by omega
        go_wp2
        go_roundw
        case rel => exact ⟨k + 1, by go_num, by omega, trivial⟩
        case measure => simp [intOf]; omega
      · have hI : ¬ (k : Int) < z.size := by omega
        have hmn := fun (w : World) (r : Option Nat) => run_eql_map_nil (P := Try.prog) w 61 _ _ r Try.underlying61
        have hol := hobj.len Try.underlying61 3
        have hml := hmap.len Try.underlying63 3
        go_wp2_with fail
        refine (specObjects_calls Bs _ w2 q3).mono ?_
        rintro e w' ⟨rfl, hww⟩
        have hww := hww.symm
        subst hww
        go_wp2_with fail
        refine (specOps_calls Bs _ w2 q1).mono ?_
        rintro e w' ⟨rfl, hww⟩
        have hww := hww.symm
        subst hww
        have HD0 : lastCount ss ≤ ss.length := lastCount_le ss
        clear hI hlt hk hzg hzs hzb hobj hol hml q0 q1 q2 q3 hmap happ hbw2 hb2 hb1
        go_wp2
        go_loopw [12, 13] (fun t12 t13 wr => ∃ (i d : Nat), t12 = .int .i64 d ∧ t13 = .int .i64 i ∧ i ≤ ss.length ∧ d + lastCount (ss.drop i) = lastCount ss ∧ R3 a b off ss ao bo Q Bm w wr) (fun _ t13 _ => ss.length - (intOf t13).toNat)
        case atStart => exact ⟨0, 0, rfl, rfl, Nat.zero_le _, by simp, HR⟩
        case round =>
          obtain ⟨i, d, rfl, rfl, hi, hd, hR⟩ := hrel
          obtain ⟨w0, hw0⟩ : ∃ w0, w0 = wr := ⟨_, rfl⟩
          subst hw0
          have HD : Hid (d + lastCount (ss.drop i) = lastCount ss) := hd
          clear hd
          by_cases hlt : i < ss.length
          · have hdl : d ≤ 4096 := by have := HD.out; omega
            go_wp2
            go_loopw [14, 15] (fun t14 t15 wr => ∃ (j : Nat), t14 = .bool true ∧ t15 = .int .i64 j ∧ i < j ∧ j ≤ ss.length ∧ (∀ j' (hj' : j' < ss.length), i < j' → j' < j → ss[j'] ≠ ss[i]) ∧ R3 a b off ss ao bo Q Bm w wr) (fun _ t15 _ => ss.length - (intOf t15).toNat)
            case atStart => exact ⟨i + 1, rfl, by go_num, by omega, by omega, by intro j' hj' h1 h2; omega, hR⟩
            case round =>
              obtain ⟨j, rfl, rfl, hij, hj, hnot, hR2⟩ := hrel
              obtain ⟨w4, hw4⟩ : ∃ w4, w4 = wr := ⟨_, rfl⟩
              subst hw4
              have e := hR2.strs.1 (ne_nil_of_lt hlt)
              subst e
              have c1 := hR2.strs.2 i hlt
              have hI : (i : Int) < ss.length := by omega
              by_cases hjl : j < ss.length
              · have c2 := hR2.strs.2 j hjl
                have hJ : (j : Int) < ss.length := by omega
                by_cases he : ss[j] = ss[i]
                · rw [he] at c2
                  go_wp2
                  go_quiet (fail)
                  go_wp2
                  go_roundw
                  case rel =>
                    refine ⟨i + 1, d, rfl, by go_num, by omega, ?_, hR2.drewN _⟩
                    have := HD.out
                    rw [lastCount_step ss i hlt, if_pos (mem_drop_of hlt hjl hij he)] at this
                    omega
                  case measure => simp [intOf]; omega
                · have hne : (ss[j].toList == ss[i].toList) = false := beq_eq_false_iff_ne.2 fun h => he (bytes_ext h)
                  go_wp2
                  go_quiet (fail)
                  go_wp2
                  go_roundw
                  case rel =>
                    refine ⟨j + 1, rfl, by go_num, by omega, by omega, ?_, hR2.drewN _⟩
                    intro j' hj' h1 h2
                    by_cases e : j' = j
                    · subst e
                      exact he
                    · exact hnot j' hj' h1 (by omega)
                  case measure => simp [intOf]; omega
              · have hnm := not_mem_drop_of hlt fun j' hj' h1 => hnot j' hj' h1 (by omega)
                have HU : upTo Q ss ss.length ss[i] = some (.pointer (some ⟨Q i, 0, none⟩)) := upTo_last Q ss i hlt ss.length hlt (Nat.le_refl _) fun j' hj' h1 _ => hnot j' hj' h1 (by omega)
                have e2 := hR2.names.1 (ne_nil_of_lt hlt)
                subst e2
                have c3 := (hR2.names.2 i hlt).1
                have hsk := le_strSum ss _ (List.getElem_mem hlt)
                have hlk : ∀ n, (Instr.lookup 63 (.map (some Bm)) (.string ss[i]) false).run Try.prog (w4.drewN n) = .ok (.pointer (some ⟨Q i, 0, none⟩)) (w4.drewN n) := fun n => by
                  have := (hR2.drewN n).map.look Try.underlying9 Try.underlying63 (z := .pointer none) (Try.zeroValue45 _) (s := ss[i]) (by unfold maxLen; omega)
                  rw [HU] at this
                  exact this
                have hne45 := neq45
                have hlk0 := hlk 0
                go_wp2
                go_quiet (fail)
                go_wp2
                go_roundw
                case rel =>
                  refine ⟨i + 1, d + 1, by go_num, by go_num, by omega, ?_, hR2.drewN _⟩
                  have := HD.out
                  rw [lastCount_step ss i hlt, if_neg hnm] at this
                  omega
                case measure => simp [intOf]; omega
          · have hml := hR.map.len Try.underlying63 3
            have HE : d = lastCount ss := by
              have := HD.out
              rw [List.drop_of_length_le (by omega)] at this
              simpa [lastCount] using this
            subst HE
            go_wp2
            go_ret
            exact ⟨by simp, hR.bel⟩
end Go.Proofs.Qxb6604467a
