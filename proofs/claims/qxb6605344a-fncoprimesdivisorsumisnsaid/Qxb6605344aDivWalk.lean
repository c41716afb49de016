import Derived.Test.Qxb6605344aBase
import Derived.Test.Qxb6605344aCop
namespace Go.Proofs.Qxb6605344a.fnCoprimesDivisorSumIsN
open Go.ChangeShapes Go.WideShapes Go.ChangeAt Go.RowKit
open Plain

theorem rem_zero {n k : Nat} (h : k ∣ n) : ((n : Int) % (k : Int) == 0) = true := by
  rw [beq_iff_eq, ← Int.natCast_emod, Nat.mod_eq_zero_of_dvd h]; rfl
theorem rem_not {n k : Nat} (h : ¬ k ∣ n) : ((n : Int) % (k : Int) == 0) = false := by
  rw [beq_eq_false_iff_ne, ← Int.natCast_emod]
  intro e
  exact h (Nat.dvd_of_mod_eq_zero (by omega))
theorem sum_step {n k : Nat} (hk : 1 ≤ k) : sumTo n k = sumTo n (k - 1) + (if k ∣ n then (cop k).length else 0) := by
  obtain ⟨j, rfl⟩ : ∃ j, k = j + 1 := ⟨k - 1, by omega⟩
  rfl

set_option maxHeartbeats 1000000 in
theorem walk (a0 : Int) (_w0 : (Lit.int .i64 a0).wf = true) (w : World) :
    Calls Try.prog 5 #[.int .i64 a0] w fun e w' => e = .returned (.bool true) ∧ Below w.heap.size w w' := by
  clear _w0
  by_cases c0 : 65536 < a0
  · go_enter Try.func5, Try.ntmps5
    go_wp2_with fail
    go_ret
    exact ⟨rfl, Below.refl _ _⟩
  by_cases c1 : a0 ≤ 0
  · go_enter Try.func5, Try.ntmps5
    go_wp2_with fail
    refine (zz_zero a0 _ c1).mono ?_
    rintro e w1 ⟨rfl, rfl⟩
    go_wp2_with fail
    go_ret
    exact ⟨rfl, Below.refl _ _⟩
  obtain ⟨n, rfl⟩ := Int.eq_ofNat_of_zero_le (a := a0) (by omega)
  have hn1 : 1 ≤ n := by omega
  have hn2 : n ≤ 65536 := by omega
  have d0 : decide (65536 < (n : Int)) = false := by simp; omega
  have d1 : decide (n = 0) = false := by simp; omega
  clear c0 c1
  go_enter Try.func5, Try.ntmps5
  go_wp2_with fail
  go_loopw [3, 4] (fun t d wr => ∃ k : Nat, 1 ≤ k ∧ k ≤ n + 1 ∧ d = .int .i64 k ∧ t = .int .i64 (sumTo n (k - 1)) ∧ Below w.heap.size w wr) (fun _ d _ => n + 1 - (intOf d).toNat)
  case atStart => exact ⟨1, by omega, by omega, rfl, rfl, Below.refl _ _⟩
  case round =>
    obtain ⟨k, hk1, hk2, rfl, rfl, hb⟩ := hrel
    have hs := sumTo_le n (k - 1) hn1
    have HST : Hid (sumTo n k = sumTo n (k - 1) + (if k ∣ n then (cop k).length else 0)) := sum_step hk1
    by_cases c : k ≤ n
    · have dk : decide ((k : Int) ≤ (n : Int)) = true := by simp; omega
      by_cases cd : k ∣ n
      · have er := rem_zero cd
        have HST2 : Hid (sumTo n k = sumTo n (k - 1) + (cop k).length) := by rw [HST.out, if_pos cd]; rfl
        clear cd HST
        have hl := cop_len_pos_le k
        go_wp2_with fail
        refine (zz_pos k _ hk1 (by omega)).mono ?_
        rintro e w1 ⟨g, cap, rfl, hg1, hg2, hcell, hb2⟩
        have hh := cop_head k hk1
        have hc0 : w1.cell? ⟨g, 0, none⟩ = some (.int .i64 1) := by
          rw [hcell 0 hh.1]
          have := hh.2
          rw [List.getElem?_eq_getElem hh.1] at this
          simp only [Option.some.injEq] at this
          rw [this]; rfl
        have hl0 : 0 < (cop k).length := hh.1
        have el : (((cop k).length : Int) == 0) = false := beq_eq_false_iff_ne.2 (by omega)
        have hb3 : Below w.heap.size w w1 := hb.trans (hb2.mono hb.size)
        clear hcell hh hb2
        go_wp2_with fail
        go_roundw
        case rel => exact ⟨k + 1, by omega, by omega, by go_num, by rw [Nat.add_sub_cancel, HST2.out]; go_num, hb3⟩
        case measure => simp [intOf]; omega
      · have er := rem_not cd
        have HST2 : Hid (sumTo n k = sumTo n (k - 1)) := by rw [HST.out, if_neg cd]; rfl
        clear cd HST
        go_wp2_with fail
        go_roundw
        case rel => exact ⟨k + 1, by omega, by omega, by go_num, by rw [Nat.add_sub_cancel, HST2.out], hb⟩
        case measure => simp [intOf]; omega
    · obtain rfl : k = n + 1 := by omega
      have dk : decide (((n + 1 : Nat) : Int) ≤ (n : Int)) = false := by simp; omega
      have hgauss := gauss n hn1
      have eg : ((sumTo n n : Int) == (n : Int)) = true := by rw [hgauss]; simp
      clear hgauss HST
      go_wp2_with fail
      go_ret
      exact ⟨rfl, hb⟩
end Go.Proofs.Qxb6605344a.fnCoprimesDivisorSumIsN
