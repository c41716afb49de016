import Derived.Test.Qxb6605330aBase
import Derived.Test.Qxb6605330aZZShort
import Derived.Test.Qxb6605330aFmt
import Derived.Test.Qxb6605330aSmall
namespace Go.Proofs.Qxb6605330a.fnShortNumberReadsCanonical
open Go.ChangeShapes Go.WideShapes Go.ChangeAt Go.RowKit
open Plain

theorem bytes_any (a0 : ByteArray) (a1 : Int) (a2 : Int) (a3 : Bool) (a4 : ByteArray) (a5 : Bool) (w0 : a0.size ≤ maxLen) (w4 : a4.size ≤ maxLen) (w : World) :
    Calls Try.prog 12 #[.string a0, .int .i64 a1, .int .u8 a2, .bool a3, .string a4, .bool a5] w fun e w' => ∃ bb : Bool, e = .returned (.bool bb) ∧ w' = w := by
  unfold maxLen at w0 w4
  go_enter Try.func12, Try.ntmps12
  go_wp2
  all_goals (go_ret; exact ⟨_, rfl, rfl⟩)

theorem zzshort_text (T : ByteArray) (A l R : List UInt8) (c : UInt8) (v : Int) (bl : Bool) (st : Int) (signed : Bool) (w : World) (i : Int) (hi : i = (A.length : Int)) (hT : T.data.toList = A ++ (fmtOf v l ++ c :: R))
    (hs : T.size ≤ 1099511627776) (hc : Canon l v.natAbs) (hl : l.length ≤ 18) (hsg : v < 0 → signed = true) (hcs : (c.toNat : Int) = st) (hst : ¬ (48 ≤ st ∧ st ≤ 57)) :
    Calls Try.prog 10 #[.string T, .int .i64 i, .bool bl, .int .u8 st, .bool signed] w fun e w' =>
      e = .returned (.tuple #[.int .i64 v, .bool true, .int .i64 (i + ((fmtOf v l).length : Int) + 1)]) ∧ Below w.heap.size w w' := by
  subst hi
  have hz : T.size = A.length + ((fmtOf v l).length + (1 + R.length)) := by
    have : T.size = T.data.toList.length := by rw [Array.length_toList]; rfl
    rw [this, hT]; simp; omega
  have hA : Acc T A.length st signed v (A.length + (fmtOf v l).length) := by
    refine ⟨by omega, ⟨by omega, ?_⟩, hsg, l, hc, hl, ?_⟩
    · rw [text_at hT]; exact hcs
    · rw [Nat.add_sub_cancel_left]; exact text_seg hT
  refine (zzshort_any T A.length bl st signed w hs hst).mono ?_
  rintro e w' ⟨n, ok, np, rfl, hb, hsn⟩
  obtain ⟨rfl, rfl, rfl⟩ := hsn.unique hst (Or.inl ⟨rfl, _, hA, rfl⟩)
  exact ⟨by congr 5, hb⟩

set_option maxHeartbeats 1000000 in
theorem walk (a0 : ByteArray) (a1 : Int) (a2 : Int) (a3 : Bool) (a4 : ByteArray) (a5 : Bool) (w0 : a0.size ≤ maxLen) (_w1 : (Lit.int .i64 a1).wf = true) (w2 : (Lit.int .u8 a2).wf = true) (w4 : a4.size ≤ maxLen) (w : World) :
    Calls Try.prog 4 #[.string a0, .int .i64 a1, .int .u8 a2, .bool a3, .string a4, .bool a5] w fun e w' => e = .returned (.bool true) ∧ Below w.heap.size w w' := by
  have W2 : Hid _ := w2
  clear w2
  go_enter Try.func4, Try.ntmps4
  go_wp2_with fail
  refine (bytes_any a0 a1 a2 a3 a4 a5 w0 w4 _).mono ?_
  rintro e ww ⟨bb, rfl, rfl⟩
  unfold maxLen at w0 w4
  cases bb
  · go_wp2_with fail
    go_ret
    exact ⟨rfl, Below.refl _ _⟩
  by_cases c0 : 524288 < (a0.size : Int)
  · go_wp2_with fail
    go_ret
    exact ⟨rfl, Below.refl _ _⟩
  by_cases c4 : 524288 < (a4.size : Int)
  · go_wp2_with fail
    go_ret
    exact ⟨rfl, Below.refl _ _⟩
  by_cases c1 : a1 ≤ -1000000000000000000
  · go_wp2_with fail
    go_ret
    exact ⟨rfl, Below.refl _ _⟩
  by_cases c2 : 1000000000000000000 ≤ a1
  · go_wp2_with fail
    go_ret
    exact ⟨rfl, Below.refl _ _⟩
  have d0 : decide (524288 < (a0.size : Int)) = false := by simp; omega
  have d4 : decide (524288 < (a4.size : Int)) = false := by simp; omega
  have d1 : decide (a1 ≤ -1000000000000000000) = false := by simp; omega
  have d2 : decide (1000000000000000000 ≤ a1) = false := by simp; omega
  by_cases c3 : a1 < 0 ∧ a3 = false
  · obtain ⟨c3, rfl⟩ := c3
    go_wp2_with fail
    go_ret
    exact ⟨rfl, Below.refl _ _⟩
  have HSG : Hid (a1 < 0 → a3 = true) := fun h => by
    cases a3 with
    | true => rfl
    | false => exact absurd ⟨h, rfl⟩ c3
  clear c3
  go_upto_region 7 with fail
  go_cut [45] (fun c wx => c = .bool false ∧ wx = ww)
  case first =>
    by_cases cn : a1 < 0
    · have e3 := HSG.out cn
      subst e3
      go_wp2_with fail
      go_meet
      case rel => exact ⟨rfl, rfl⟩
    · have e3 : decide (a1 < 0) = false := by simpa using cn
      go_wp2_with fail
      go_meet
      case rel => exact ⟨rfl, rfl⟩
  case rest =>
    obtain ⟨rfl, rfl⟩ := hcut
    by_cases c5 : a2 = 45
    · have e5 : (a2 == 45) = true := by rw [c5]; rfl
      clear c5
      go_wp2_with fail
      go_ret
      exact ⟨rfl, Below.refl _ _⟩
    have e5 : (a2 == 45) = false := beq_eq_false_iff_ne.2 c5
    by_cases c6 : 48 ≤ a2 ∧ a2 ≤ 57
    · go_wp2_with fail
      refine (isdig_yes a2 _ c6.1 c6.2).mono ?_
      rintro e w3 ⟨rfl, rfl⟩
      go_wp2_with fail
      go_ret
      exact ⟨rfl, Below.refl _ _⟩
    have C6 : Hid _ := c6
    clear c6
    go_wp2_with fail
    refine (isdig_no a2 _ C6.out).mono ?_
    rintro e w3 ⟨rfl, rfl⟩
    go_wp2_with fail
    refine (fmt_any a1 _ (by omega) (by omega)).mono ?_
    rintro e w4 ⟨l, rfl, hcan, hb⟩
    have hl18 : (l.length : Int) ≤ 18 := by have := canon_len hcan (by omega); omega
    have hl19 : ((fmtOf a1 l).length : Int) ≤ 19 := by rw [fmtOf_len]; split <;> omega
    have HC : Hid _ := hcan
    clear hcan
    obtain ⟨c, hc⟩ : ∃ c : UInt8, (c.toNat : Int) = a2 := by
      have hb := bounds_u8 W2.out
      exact ⟨UInt8.ofNat a2.toNat, by rw [UInt8.toNat_ofNat']; omega⟩
    have HCC : Hid _ := hc
    clear hc
    have hconv : (convert 29 9 (.slice (some ⟨w4.heap.size, 0, none⟩) 1 1)).run Try.prog (w4.alloc (.cells #[.int .u8 a2] 5)) = .ok (.string ⟨#[c]⟩) (w4.alloc (.cells #[.int .u8 a2] 5)) := by
      refine run_convert_bytes_back (w4.alloc (.cells #[.int .u8 a2] 5)) 29 9 5 ⟨w4.heap.size, 0, none⟩ 1 [c] Try.underlying29 Try.underlying5 Try.underlying9 (fun j hj => add_cell ?_)
      rw [World.cell?_alloc_mark]
      have : j = 0 := by simpa using hj
      subst this
      simp [HCC.out]
    go_wp2_with fail
    have hT : (a0 ++ ⟨(fmtOf a1 l).toArray⟩ ++ ⟨#[c]⟩ ++ a4).data.toList = a0.data.toList ++ (fmtOf a1 l ++ c :: a4.data.toList) := by simp
    have e0 : a0.data.toList.length = a0.size := Array.length_toList
    have e4 : a4.data.toList.length = a4.size := Array.length_toList
    have hz : (a0 ++ ⟨(fmtOf a1 l).toArray⟩ ++ ⟨#[c]⟩ ++ a4).size ≤ 1099511627776 := by
      have : (a0 ++ ⟨(fmtOf a1 l).toArray⟩ ++ ⟨#[c]⟩ ++ a4).size = (a0 ++ ⟨(fmtOf a1 l).toArray⟩ ++ ⟨#[c]⟩ ++ a4).data.toList.length := Array.length_toList.symm
      rw [this, hT]; simp only [List.length_append, List.length_cons]; omega
    refine (zzshort_text _ a0.data.toList l a4.data.toList c a1 a5 a2 a3 _ _ (by rw [e0]) hT hz HC.out (by omega) HSG.out HCC.out C6.out).mono ?_
    rintro e w5 ⟨rfl, hb2⟩
    have hb3 : Below w3.heap.size w3 w5 := (hb.alloc hb.size _).trans (hb2.mono (by have := hb.size; simp; omega))
    clear hT hz e0 e4 hconv hb2
    go_wp2_with fail
    go_ret
    exact ⟨rfl, hb3⟩
end Go.Proofs.Qxb6605330a.fnShortNumberReadsCanonical
