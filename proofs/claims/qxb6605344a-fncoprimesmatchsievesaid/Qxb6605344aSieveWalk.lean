import Derived.Test.Qxb6605344aBase
import Derived.Test.Qxb6605344aStrike
import Derived.Deep.DeepCutAuto
import Derived.Deep.CutBlock
namespace Go.Proofs.Qxb6605344a.fnCoprimesMatchSieve
open Go.ChangeShapes Go.WideShapes Go.ChangeAt Go.RowKit
open Plain

theorem info4 : (Try.prog.info? 4).map (fun i => (i.zero, i.size, i.bytes)) = some (some (.bool false), 1, 1) := by kernel_rfl

theorem rem_zero {n k : Nat} (h : k ∣ n) : ((n : Int) % (k : Int) == 0) = true := by
  rw [beq_iff_eq, ← Int.natCast_emod, Nat.mod_eq_zero_of_dvd h]; rfl
theorem rem_not {n k : Nat} (h : ¬ k ∣ n) : ((n : Int) % (k : Int) == 0) = false := by
  rw [beq_eq_false_iff_ne, ← Int.natCast_emod]
  intro e
  exact h (Nat.dvd_of_mod_eq_zero (by omega))

theorem row_made {w2 : World} {g n : Nat} (h : w2.ownsRow g 4 1 (.slice (some ⟨g, 0, none⟩) (n + 1) (n + 1)) (n + 1) (madeCells #[Value.bool false] (n + 1)).toList) : Row w2 g n (List.replicate (n + 1) false) := by
  have e : (madeCells #[Value.bool false] (n + 1)).toList = bools (List.replicate (n + 1) false) := by
    unfold bools
    rw [List.map_replicate]
    exact toList_madeCells_one (Value.bool false) (n + 1)
  rw [e] at h
  exact h

set_option maxRecDepth 100000 in
set_option maxHeartbeats 1000000 in
theorem walk (a0 : Int) (_w0 : (Lit.int .i64 a0).wf = true) (w : World) :
    Calls Try.prog 3 #[.int .i64 a0] w fun e w' => e = .returned (.bool true) ∧ Below w.heap.size w w' := by
  clear _w0
  by_cases c0 : 65536 < a0
  · go_enter Try.func3, Try.ntmps3
    go_wp2_with fail
    go_ret
    exact ⟨rfl, Below.refl _ _⟩
  by_cases c1 : a0 ≤ 0
  · go_enter Try.func3, Try.ntmps3
    go_wp2_with fail
    refine (zz_zero a0 _ c1).mono ?_
    rintro e w1 ⟨rfl, rfl⟩
    go_wp2_with fail
    go_ret
    exact ⟨rfl, Below.refl _ _⟩
  obtain ⟨n, rfl⟩ := Int.eq_ofNat_of_zero_le (a := a0) (by omega)
  have hn1 : 1 ≤ n := by omega
  have hn2 : n ≤ 65536 := by omega
  have d0 : decide (65536 < (n : Int)) = false := by simp; omega
  have d1 : decide (n = 0) = false := by simp; omega
  clear c0 c1
  obtain ⟨i4, hi, hz0, hz1, hz2⟩ := info_parts info4
  go_enter Try.func3, Try.ntmps3
  go_wp2_with fail
  refine (zz_pos n _ hn1 hn2).mono ?_
  rintro e w1 ⟨g0, cap, rfl, hg1, hg2, hcell, hb⟩
  have HL : Hid (ListAt w1 g0 (cop n)) := hcell
  clear hcell
  go_wp2_with (at_make; refine wpList_make_full _ rfl _ _ 24 rfl w1.heap.size 4 i4 (.bool false) 1 Try.underlying24 hi hz0 hz1 .i64 .i64 _ _ (n + 1) rfl rfl (by omega) (by omega) ?b2 ?b3 ?b4 ?_)
  case b2 => rw [hz2]; omega
  case b3 => unfold maxLen; omega
  case b4 => exact Nat.le_refl _
  intro w2 hown hgrow
  have hrow0 := row_made hown
  have hb2 : Below w1.heap.size w1 w2 := (Below.refl _ _).grown hgrow (Nat.le_refl _) (fun k h => by cases h)
  have HR0 : Hid (Row w2 w1.heap.size n (List.replicate (n + 1) false)) := hrow0
  clear hown hgrow hrow0
  go_upto_block 0 with fail
  go_cut [5, 6] (fun m p wx => ∃ (M P : Nat) (S : List Bool), m = .int .i64 M ∧ p = .int .i64 P ∧ Fac n M P ∧ M < P * P ∧ Siv n M 0 S ∧ Row wx w1.heap.size n S ∧ Below w1.heap.size w1 wx)
  case first =>
    clear HL
    go_wp2_with fail
    go_loopw [5, 6] (fun m p wx => ∃ (M P : Nat) (S : List Bool), m = .int .i64 M ∧ p = .int .i64 P ∧ P ≤ n + 1 ∧ Fac n M P ∧ Siv n M 0 S ∧ Row wx w1.heap.size n S ∧ Below w1.heap.size w1 wx) (fun _ p _ => n + 2 - (intOf p).toNat)
    case atStart => exact ⟨n, 2, _, rfl, rfl, by omega, Fac.start hn1, Siv.start n, HR0.out, hb2⟩
    case round =>
      obtain ⟨M, P, S, rfl, rfl, hP, hfac, hsiv, hrow, hbb⟩ := hrel
      have hM1 := hfac.pos
      have hM2 := hfac.le hn1
      have hP2 := hfac.two
      have hPP1 : (P : Int) * (P : Int) ≤ 4295098369 := by
        have h1 : P * P ≤ 65537 * 65537 := Nat.mul_le_mul (by omega) (by omega)
        rw [← Int.natCast_mul]; omega
      have hPP0 : 0 ≤ (P : Int) * (P : Int) := by rw [← Int.natCast_mul]; omega
      have HF : Hid (Fac n M P) := hfac
      have HS : Hid (Siv n M 0 S) := hsiv
      have HR : Hid (Row wr w1.heap.size n S) := hrow
      clear hfac hsiv hrow HR0 hb2
      by_cases cl : P * P ≤ M
      · have hPn : P ≤ n := by
          have h1 : P * 1 ≤ P * P := Nat.mul_le_mul_left _ (by omega)
          omega
        have dl : decide ((P : Int) * (P : Int) ≤ (M : Int)) = true := by rw [← Int.natCast_mul]; simp; omega
        by_cases cd : P ∣ M
        · have er := rem_zero cd
          have CD : Hid (P ∣ M) := cd
          clear cd
          go_wp2_with fail
          go_loop [5] (fun m => ∃ M' : Nat, m = .int .i64 M' ∧ Fac n M' P ∧ Siv n M' P S) (fun m => (intOf m).toNat)
          case atStart => exact ⟨M, rfl, HF.out, HS.out.weak P⟩
          case round =>
            obtain ⟨M', rfl, hf', hs'⟩ := hrel
            have hM1' := hf'.pos
            have hM2' := hf'.le hn1
            have HF' : Hid (Fac n M' P) := hf'
            have HS' : Hid (Siv n M' P S) := hs'
            clear hf' hs'
            by_cases cd' : P ∣ M'
            · have er' := rem_zero cd'
              have CD' : Hid (P ∣ M') := cd'
              clear cd'
              have q1 : (M' : Int) / (P : Int) ≤ 65536 := by
                have := Nat.div_le_self M' P
                rw [← Int.natCast_ediv]; omega
              have q0 : 0 ≤ (M' : Int) / (P : Int) := by rw [← Int.natCast_ediv]; exact Int.natCast_nonneg _
              go_wp2_with fail
              go_round
              case rel => exact ⟨M' / P, rfl, HF'.out.cut CD'.out, HS'.out.cut HF'.out CD'.out⟩
              case measure =>
                have := Nat.div_lt_self (show 0 < M' by omega) (show 1 < P by omega)
                simp [intOf]; omega
            · have er' := rem_not cd'
              have CD' : Hid (¬ P ∣ M') := cd'
              clear cd'
              go_wp2_with fail
              refine (strike_any _ n P S _ hP2 hPn hn2 HS'.out.len HR.out).mono ?_
              rintro e w3 ⟨rfl, Q, hQ, hrow3, hb3⟩
              have HR3 : Hid (Row w3 w1.heap.size n (struckTo S P Q)) := hrow3
              clear hrow3
              go_wp2_with fail
              go_roundw
              case rel => exact ⟨M', P + 1, _, rfl, by go_num, by omega, HF'.out.next CD'.out, HS'.out.strike hP2 (Nat.dvd_trans CD.out HF.out.dvd) hQ, HR3.out, hbb.trans hb3⟩
              case measure => simp [intOf]; omega
        · have er := rem_not cd
          have CD : Hid (¬ P ∣ M) := cd
          clear cd
          go_wp2_with fail
          go_roundw
          case rel => exact ⟨M, P + 1, S, rfl, by go_num, by omega, HF.out.next CD.out, HS.out, HR.out, hbb⟩
          case measure => simp [intOf]; omega
      · have dl : decide ((P : Int) * (P : Int) ≤ (M : Int)) = false := by rw [← Int.natCast_mul]; simp; omega
        go_wp2_with fail
        go_meet
        case rel => exact ⟨M, P, S, rfl, rfl, HF.out, by omega, HS.out, HR.out, hbb⟩
  case rest =>
    obtain ⟨M, P, S, rfl, rfl, hfac, hlt, hsiv, hrow, hbb⟩ := hcut
    have hM1 := hfac.pos
    have hM2 := hfac.le hn1
    have HF : Hid (Fac n M P) := hfac
    have HS : Hid (Siv n M 0 S) := hsiv
    have HR : Hid (Row wc w1.heap.size n S) := hrow
    have HT : Hid (M < P * P) := hlt
    clear hfac hsiv hrow hlt HR0 hb2
    go_upto_if 45 with fail
    go_cut [0] (fun x wx => x = .int .i64 n ∧ ∃ S : List Bool, Done n S ∧ Row wx w1.heap.size n S ∧ Below w1.heap.size w1 wx)
    case first =>
      by_cases cm : 1 < M
      · have hla := HF.out.last HT.out cm
        have HLA : Hid (Fac n M M) := hla
        clear hla
        have dm : decide (1 < (M : Int)) = true := by simp; omega
        go_wp2_with fail
        refine (strike_any _ n M S _ (by omega) hM2 hn2 HS.out.len HR.out).mono ?_
        rintro e w3 ⟨rfl, Q, hQ, hrow3, hb3⟩
        have HR3 : Hid (Row w3 w1.heap.size n (struckTo S M Q)) := hrow3
        clear hrow3
        go_wp2_with fail
        go_meet
        case rel => exact ⟨rfl, _, HS.out.done_last HLA.out hQ, HR3.out, hbb.trans hb3⟩
      · have dm : decide (1 < (M : Int)) = false := by simp; omega
        obtain rfl : M = 1 := by omega
        go_wp2_with fail
        go_meet
        case rel => exact ⟨rfl, S, HS.out.done_one, HR.out, hbb⟩
    case rest =>
      obtain ⟨rfl, T, hdone, hrowT, hbT⟩ := hcut
      have HD : Hid (Done n T) := hdone
      have HRT : Hid (Row wc w1.heap.size n T) := hrowT
      have HLT : Hid (ListAt wc g0 (cop n)) := fun t h => (hbT.cell (p := ⟨g0, t, none⟩) hg2).trans (HL.out t h)
      have hfin : Below w.heap.size w wc := hb.trans (hbT.mono hb.size)
      have hlen := cop_len_pos_le n
      clear hdone hrowT HL HF HS HR HT hM1 hM2 hbb
      go_wp2_with fail
      go_loop [7, 8] (fun i k => ∃ K : Nat, 1 ≤ K ∧ K ≤ n + 1 ∧ k = .int .i64 K ∧ i = .int .i64 ((copTo n (K - 1)).length : Nat)) (fun _ k => n + 1 - (intOf k).toNat)
      case atStart => exact ⟨1, by omega, by omega, rfl, rfl⟩
      case round =>
        obtain ⟨K, hK1, hK2, rfl, rfl⟩ := hrel
        have hli := copTo_len n (K - 1)
        by_cases ck : K ≤ n
        · have dk : decide ((K : Int) ≤ (n : Int)) = true := by simp; omega
          have hix : (K : Int) < (n : Int) + 1 := by omega
          have hTl : K < T.length := by rw [HD.out.1]; omega
          have hcT := row_cell HRT.out HD.out.1 K hTl
          rw [HD.out.2 K hTl hK1] at hcT
          have eK : K - 1 + 1 = K := by omega
          by_cases cg : Nat.gcd K n = 1
          · have hat := cop_at n (K - 1) (by omega) (by rw [eK]; exact cg)
            have hst := copTo_succ n (K - 1)
            rw [eK] at hat hst
            rw [if_pos cg] at hst
            have hcG := HLT.out _ hat.1
            have e2 : (cop n)[(copTo n (K - 1)).length]'hat.1 = K := by
              have := hat.2
              rw [List.getElem?_eq_getElem hat.1] at this
              simpa using this
            rw [e2] at hcG
            have hlt := hat.1
            have dcg : (!decide (Nat.gcd K n = 1)) = false := by simp [cg]
            rw [dcg] at hcT
            have HSt : Hid (copTo n K = copTo n (K - 1) ++ [K]) := hst
            clear hst hat e2 dcg cg eK HRT HLT
            have dge : decide (((cop n).length : Int) ≤ ((copTo n (K - 1)).length : Int)) = false := by simp; omega
            go_wp2_with fail
            go_round
            case rel => exact ⟨K + 1, by omega, by omega, by go_num, by rw [Nat.add_sub_cancel, HSt.out, List.length_append]; go_num⟩
            case measure => simp [intOf]; omega
          · have hst := copTo_succ n (K - 1)
            rw [eK] at hst
            rw [if_neg cg, List.append_nil] at hst
            have dcg : (!decide (Nat.gcd K n = 1)) = true := by simp [cg]
            rw [dcg] at hcT
            have HSt : Hid (copTo n K = copTo n (K - 1)) := hst
            clear hst dcg cg eK HRT HLT
            go_wp2_with fail
            go_round
            case rel => exact ⟨K + 1, by omega, by omega, by go_num, by rw [Nat.add_sub_cancel, HSt.out]⟩
            case measure => simp [intOf]; omega
        · obtain rfl : K = n + 1 := by omega
          have dk : decide (((n + 1 : Nat) : Int) ≤ (n : Int)) = false := by simp; omega
          have eq1 : (((copTo n n).length : Int) == ((cop n).length : Int)) = true := by
            rw [beq_iff_eq]; rfl
          go_wp2_with fail
          go_ret
          exact ⟨rfl, hfin⟩
end Go.Proofs.Qxb6605344a.fnCoprimesMatchSieve
