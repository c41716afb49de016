import Derived.Test.Qxb6605344aBase
import Derived.Test.Qxb6605344aCop
import Derived.Test.Qxb6605344aTotient
import Derived.Deep.DeepCutAuto
import Derived.Deep.CutBlock
namespace Go.Proofs.Qxb6605344a.fnCoprimesCountIsTotientAndSymmetric
open Go.ChangeShapes Go.WideShapes Go.ChangeAt Go.RowKit
open Plain

theorem rem_zero {n k : Nat} (h : k ∣ n) : ((n : Int) % (k : Int) == 0) = true := by
  rw [beq_iff_eq, ← Int.natCast_emod, Nat.mod_eq_zero_of_dvd h]; rfl
theorem rem_not {n k : Nat} (h : ¬ k ∣ n) : ((n : Int) % (k : Int) == 0) = false := by
  rw [beq_eq_false_iff_ne, ← Int.natCast_emod]
  intro e
  exact h (Nat.dvd_of_mod_eq_zero (by omega))
theorem quo_bd {m p : Nat} (h : m ≤ 65536) : (m : Int) / (p : Int) ≤ 65536 ∧ 0 ≤ (m : Int) / (p : Int) := by
  have := Nat.div_le_self m p
  rw [← Int.natCast_ediv]
  exact ⟨by omega, Int.natCast_nonneg _⟩
theorem mul_bd {f p : Nat} (h : f ≤ 65536) (hp : 1 ≤ p) : (f : Int) / (p : Int) * ((p : Int) - 1) ≤ 65536 ∧ 0 ≤ (f : Int) / (p : Int) * ((p : Int) - 1) ∧ (f : Int) / (p : Int) * ((p : Int) - 1) = ((f / p * (p - 1) : Nat) : Int) := by
  have e : (f : Int) / (p : Int) * ((p : Int) - 1) = ((f / p * (p - 1) : Nat) : Int) := by
    rw [Int.natCast_mul, Int.natCast_ediv, Int.natCast_sub hp]; rfl
  have h1 : f / p * (p - 1) ≤ f / p * p := Nat.mul_le_mul_left _ (by omega)
  have h2 := Nat.div_mul_le_self f p
  rw [e]
  exact ⟨by omega, Int.natCast_nonneg _, rfl⟩

set_option maxRecDepth 100000 in
set_option maxHeartbeats 1000000 in
theorem tot_any (n : Nat) (w : World) (hn1 : 1 ≤ n) (hn2 : n ≤ 65536) :
    Calls Try.prog 8 #[.int .i64 n] w fun e w' => e = .returned (.int .i64 ((cop n).length : Nat)) ∧ w' = w := by
  go_enter Try.func8, Try.ntmps8
  go_wp2_with fail
  go_loop [3, 4, 5] (fun f m p => ∃ F M P R : Nat, f = .int .i64 F ∧ m = .int .i64 M ∧ p = .int .i64 P ∧ P ≤ n + 1 ∧ Fac n M P ∧ Tot n M R 0 F) (fun _ _ p => n + 2 - (intOf p).toNat)
  case atStart => exact ⟨n, n, 2, 1, rfl, rfl, rfl, by omega, Fac.start hn1, Tot.start⟩
  case round =>
    obtain ⟨F, M, P, R, rfl, rfl, rfl, hP, hfac, htot⟩ := hrel
    have hM1 := hfac.pos
    have hM2 := hfac.le hn1
    have hP2 := hfac.two
    have hF := htot.bound
    have hPP1 : (P : Int) * (P : Int) ≤ 4295098369 := by
      have h1 : P * P ≤ 65537 * 65537 := Nat.mul_le_mul (by omega) (by omega)
      rw [← Int.natCast_mul]; omega
    have hPP0 : 0 ≤ (P : Int) * (P : Int) := by rw [← Int.natCast_mul]; omega
    have HF : Hid (Fac n M P) := hfac
    have HT : Hid (Tot n M R 0 F) := htot
    clear hfac htot
    by_cases cl : P * P ≤ M
    · have hPn : P ≤ n := by
        have h1 : P * 1 ≤ P * P := Nat.mul_le_mul_left _ (by omega)
        omega
      have dl : decide ((P : Int) * (P : Int) ≤ (M : Int)) = true := by rw [← Int.natCast_mul]; simp; omega
      by_cases cd : P ∣ M
      · have er := rem_zero cd
        have CD : Hid (P ∣ M) := cd
        clear cd
        go_wp2_with fail
        go_loop [4] (fun m => ∃ M' : Nat, m = .int .i64 M' ∧ Fac n M' P ∧ Tot n M' R P F) (fun m => (intOf m).toNat)
        case atStart => exact ⟨M, rfl, HF.out, HT.out.weak P⟩
        case round =>
          obtain ⟨M', rfl, hf', hs'⟩ := hrel
          have hM1' := hf'.pos
          have hM2' := hf'.le hn1
          have HF' : Hid (Fac n M' P) := hf'
          have HT' : Hid (Tot n M' R P F) := hs'
          clear hf' hs'
          by_cases cd' : P ∣ M'
          · have er' := rem_zero cd'
            have CD' : Hid (P ∣ M') := cd'
            clear cd'
            have q1 := (quo_bd (m := M') (p := P) (by omega)).1
            have q0 := (quo_bd (m := M') (p := P) (by omega)).2
            go_wp2_with fail
            go_round
            case rel => exact ⟨M' / P, rfl, HF'.out.cut CD'.out, HT'.out.cut HF'.out CD'.out⟩
            case measure =>
              have := Nat.div_lt_self (show 0 < M' by omega) (show 1 < P by omega)
              simp [intOf]; omega
          · have er' := rem_not cd'
            have CD' : Hid (¬ P ∣ M') := cd'
            clear cd'
            have q1 := (quo_bd (m := F) (p := P) (by omega)).1
            have q0 := (quo_bd (m := F) (p := P) (by omega)).2
            have m1 := (mul_bd (f := F) (p := P) (by omega) (by omega)).1
            have m0 := (mul_bd (f := F) (p := P) (by omega) (by omega)).2.1
            go_wp2_with fail
            go_round
            case rel =>
              refine ⟨F / P * (P - 1), M', P + 1, R * P, ?_, rfl, by go_num, by omega, HF'.out.next CD'.out, ?_⟩
              · rw [(mul_bd (f := F) (p := P) (by omega) (by omega)).2.2]
              · exact HT'.out.next hP2 (HF.out.prime CD.out) (Nat.dvd_trans CD.out HF.out.dvd) (Nat.Coprime.symm (Nat.Coprime.coprime_dvd_right CD.out HT.out.apart)) CD'.out
            case measure => simp [intOf]; omega
      · have er := rem_not cd
        have CD : Hid (¬ P ∣ M) := cd
        clear cd
        go_wp2_with fail
        go_round
        case rel => exact ⟨F, M, P + 1, R, rfl, rfl, by go_num, by omega, HF.out.next CD.out, HT.out⟩
        case measure => simp [intOf]; omega
    · have dl : decide ((P : Int) * (P : Int) ≤ (M : Int)) = false := by rw [← Int.natCast_mul]; simp; omega
      by_cases cm : 1 < M
      · have dm : decide (1 < (M : Int)) = true := by simp; omega
        have hla := HF.out.last (by omega) cm
        have hend := HT.out.last hla
        have HE : Hid (F / M * (M - 1) = (cop n).length) := hend
        clear hla hend
        have q1 := (quo_bd (m := F) (p := M) (by omega)).1
        have q0 := (quo_bd (m := F) (p := M) (by omega)).2
        have m1 := (mul_bd (f := F) (p := M) (by omega) (by omega)).1
        have m0 := (mul_bd (f := F) (p := M) (by omega) (by omega)).2.1
        go_wp2_with fail
        go_ret
        refine ⟨?_, rfl⟩
        rw [← HE.out, ← (mul_bd (f := F) (p := M) (by omega) (by omega)).2.2]
        rfl
      · have dm : decide (1 < (M : Int)) = false := by simp; omega
        obtain rfl : M = 1 := by omega
        have hend := HT.out.done
        have HE : Hid (F = (cop n).length) := hend
        clear hend
        go_wp2_with fail
        go_ret
        refine ⟨?_, rfl⟩
        rw [← HE.out]
        rfl

set_option maxRecDepth 100000 in
set_option maxHeartbeats 1000000 in
theorem walk (a0 : Int) (_w0 : (Lit.int .i64 a0).wf = true) (w : World) :
    Calls Try.prog 4 #[.int .i64 a0] w fun e w' => e = .returned (.bool true) ∧ Below w.heap.size w w' := by
  clear _w0
  by_cases c0 : 65536 < a0
  · go_enter Try.func4, Try.ntmps4
    go_wp2_with fail
    go_ret
    exact ⟨rfl, Below.refl _ _⟩
  by_cases c1 : a0 ≤ 0
  · go_enter Try.func4, Try.ntmps4
    go_wp2_with fail
    refine (zz_zero a0 _ c1).mono ?_
    rintro e w1 ⟨rfl, rfl⟩
    go_wp2_with fail
    go_ret
    exact ⟨rfl, Below.refl _ _⟩
  obtain ⟨n, rfl⟩ := Int.eq_ofNat_of_zero_le (a := a0) (by omega)
  have hn1 : 1 ≤ n := by omega
  have hn2 : n ≤ 65536 := by omega
  have d0 : decide (65536 < (n : Int)) = false := by simp; omega
  have d1 : decide (n = 0) = false := by simp; omega
  clear c0 c1
  go_enter Try.func4, Try.ntmps4
  go_wp2_with fail
  refine (zz_pos n _ hn1 hn2).mono ?_
  rintro e w1 ⟨g0, cap, rfl, hg1, hg2, hcell, hb⟩
  have HL : Hid (ListAt w1 g0 (cop n)) := hcell
  clear hcell
  go_wp2_with fail
  refine (tot_any n _ hn1 hn2).mono ?_
  rintro e w2 ⟨rfl, rfl⟩
  have en : (((cop n).length : Int) != ((cop n).length : Int)) = false := by simp
  have hlen := cop_len_pos_le n
  go_wp2_with fail
  go_loopw [4, 5] (fun pv i wr => ∃ I : Nat, I ≤ (cop n).length ∧ i = .int .i64 I ∧ pv = .int .i64 (before (cop n) I : Nat) ∧ ∃ q, wr = w2.drewN q) (fun _ i _ => (cop n).length - (intOf i).toNat)
  case atStart => exact ⟨0, by omega, rfl, rfl, 0, rfl⟩
  case round =>
    obtain ⟨I, hI, rfl, rfl, q, rfl⟩ := hrel
    by_cases ci : I < (cop n).length
    · have di : decide ((I : Int) < ((cop n).length : Int)) = true := by simp; omega
      have hc1 := HL.out I ci
      have hm := cop_mem (List.getElem_mem ci)
      have hbl := before_lt n I ci
      have h2 : (cop n).length - 1 - I < (cop n).length := by omega
      have hc2 := HL.out _ h2
      have HBS : Hid (before (cop n) (I + 1) = (cop n)[I]) := before_succ _ _ ci
      have HSY : Hid (2 ≤ n → (cop n)[I] + (cop n)[(cop n).length - 1 - I] = n) := fun h => cop_sym n I h ci h2
      have hm2 := cop_mem (List.getElem_mem h2)
      generalize (cop n)[I] = x at *
      generalize (cop n)[(cop n).length - 1 - I] = y at *
      generalize before (cop n) I = z at *
      obtain ⟨x1, x2, -⟩ := hm
      obtain ⟨y1, y2, -⟩ := hm2
      have dx1 : decide ((x : Int) ≤ (z : Int)) = false := by simp; omega
      have dx2 : decide ((n : Int) < (x : Int)) = false := by simp; omega
      by_cases c2 : 2 ≤ n
      · have hsum := HSY.out c2
        have es : ((x : Int) + (y : Int) != (n : Int)) = false := by
          have : (x : Int) + (y : Int) = (n : Int) := by omega
          rw [this]; simp
        have dn : (2 : Int) ≤ (n : Int) := by omega
        have hix : (I : Int) < ((cop n).length : Int) := by omega
        clear hsum
        go_wp2_with fail
        go_quiet (fail)
        go_wp2_with fail
        go_roundw
        case rel => exact ⟨I + 1, by omega, by go_num, by rw [HBS.out], _, by first | rfl | exact World.drewN_drewN ..⟩
        case measure => simp [intOf]; omega
      · have dn : decide ((2 : Int) ≤ (n : Int)) = false := by simp; omega
        have dn' : decide (2 ≤ n) = false := by simp; omega
        have hix : (I : Int) < ((cop n).length : Int) := by omega
        clear HSY
        go_wp2_with fail
        go_quiet (fail)
        go_wp2_with fail
        go_roundw
        case rel => exact ⟨I + 1, by omega, by go_num, by rw [HBS.out], _, by first | rfl | exact World.drewN_drewN ..⟩
        case measure => simp [intOf]; omega
    · have di : decide ((I : Int) < ((cop n).length : Int)) = false := by simp; omega
      go_wp2_with fail
      go_ret
      exact ⟨rfl, below_drewN hb q⟩
end Go.Proofs.Qxb6605344a.fnCoprimesCountIsTotientAndSymmetric
