import Derived.Test.Qxb6605330aBase
import Derived.Test.Qxb6605330aModel2
namespace Go.Proofs.Qxb6605330a.fnShortNumberExact
open Go.ChangeShapes Go.WideShapes Go.ChangeAt Go.RowKit
open Plain

theorem bytes_any (a0 : ByteArray) (a1 : Int) (a2 : Bool) (a3 : Int) (a4 : Bool) (w0 : a0.size ≤ maxLen) (w : World) :
    Calls Try.prog 8 #[.string a0, .int .i64 a1, .bool a2, .int .u8 a3, .bool a4] w fun e w' => ∃ bb : Bool, e = .returned (.bool bb) ∧ w' = w := by
  unfold maxLen at w0
  go_enter Try.func8, Try.ntmps8
  go_wp2
  all_goals (go_ret; exact ⟨_, rfl, rfl⟩)

set_option maxHeartbeats 1000000 in
theorem walk (a0 : ByteArray) (a1 : Int) (a2 : Bool) (a3 : Int) (a4 : Bool) (w0 : a0.size ≤ maxLen) (_w1 : (Lit.int .i64 a1).wf = true) (_w3 : (Lit.int .u8 a3).wf = true) (w : World) :
    Calls Try.prog 3 #[.string a0, .int .i64 a1, .bool a2, .int .u8 a3, .bool a4] w fun e w' => e = .returned (.bool true) ∧ Below w.heap.size w w' := by
  clear _w1 _w3
  go_enter Try.func3, Try.ntmps3
  go_wp2_with fail
  refine (bytes_any a0 a1 a2 a3 a4 w0 _).mono ?_
  rintro e ww ⟨bb, rfl, rfl⟩
  unfold maxLen at w0
  cases bb
  · go_wp2_with fail
    go_ret
    exact ⟨rfl, Below.refl _ _⟩
  by_cases c0 : 1048576 < (a0.size : Int)
  · go_wp2_with fail
    go_ret
    exact ⟨rfl, Below.refl _ _⟩
  by_cases c1 : a1 < 0
  · go_wp2_with fail
    go_ret
    exact ⟨rfl, Below.refl _ _⟩
  obtain ⟨i, rfl⟩ := Int.eq_ofNat_of_zero_le (a := a1) (by omega)
  have hs : a0.size ≤ 1099511627776 := by omega
  clear w0 c1
  by_cases c5 : a3 = 45
  · have e5 : (a3 == 45) = true := by rw [c5]; rfl
    clear c5
    go_wp2_with fail
    go_ret
    exact ⟨rfl, Below.refl _ _⟩
  have e5 : (a3 == 45) = false := beq_eq_false_iff_ne.2 c5
  have H5 : Hid (a3 ≠ 45) := c5
  clear c5
  by_cases c6 : 48 ≤ a3 ∧ a3 ≤ 57
  · go_wp2_with fail
    refine (isdig_yes a3 _ c6.1 c6.2).mono ?_
    rintro e w3 ⟨rfl, rfl⟩
    go_wp2_with fail
    go_ret
    exact ⟨rfl, Below.refl _ _⟩
  have C6 : Hid (¬ (48 ≤ a3 ∧ a3 ≤ 57)) := c6
  clear c6
  go_wp2_with fail
  refine (isdig_no a3 _ C6.out).mono ?_
  rintro e w3 ⟨rfl, rfl⟩
  go_wp2_with fail
  refine (zzshort_any a0 i a2 a3 a4 _ hs C6.out).mono ?_
  rintro e w4 ⟨n, ok, np, rfl, hb, hsn⟩
  have HS : Hid (SN a0 i a3 a4 n ok np) := hsn
  clear hsn
  go_wp2_with fail
  refine (modelShort_any a0 i a3 a4 _ hs C6.out H5.out).mono ?_
  rintro e w5 ⟨n', ok', np', rfl, hb2, hsn2⟩
  obtain ⟨rfl, rfl, rfl⟩ := HS.out.unique C6.out hsn2
  have hb3 : Below w3.heap.size w3 w5 := hb.trans (hb2.mono hb.size)
  clear hsn2 hb2
  go_wp2_with fail
  go_ret
  exact ⟨rfl, hb3⟩
end Go.Proofs.Qxb6605330a.fnShortNumberExact
