import Derived.Test.Qxb6605330aBase
import Derived.Test.Qxb6605330aSkip
import Derived.Test.Qxb6605330aFmt
namespace Go.Proofs.Qxb6605330a.fnSkipStringRoundTrip
open Go.ChangeShapes Go.WideShapes Go.ChangeAt Go.RowKit
open Plain

theorem bytes_any (a0 a1 a2 : ByteArray) (a3 : Bool) (w0 : a0.size ≤ maxLen) (w1 : a1.size ≤ maxLen) (w2 : a2.size ≤ maxLen) (w : World) :
    Calls Try.prog 17 #[.string a0, .string a1, .string a2, .bool a3] w fun e w' => ∃ bb : Bool, e = .returned (.bool bb) ∧ w' = w := by
  unfold maxLen at w0 w1 w2
  go_enter Try.func17, Try.ntmps17
  go_wp2
  all_goals (go_ret; exact ⟨_, rfl, rfl⟩)

theorem zzskip_text (T : ByteArray) (A l C : List UInt8) (B : ByteArray) (bl : Bool) (w : World) (i : Int) (hi : i = (A.length : Int)) (hT : T.data.toList = A ++ (l ++ 58 :: (B.data.toList ++ C)))
    (hs : T.size ≤ 1099511627776) (hd : Digs l) (hv : val l = B.size) :
    Calls Try.prog 16 #[.string T, .int .i64 i, .bool bl] w fun e w' =>
      e = .returned (.tuple #[.string B, .int .i64 (i + (l.length : Int) + 1 + (B.size : Int))]) ∧ Below w.heap.size w w' := by
  subst hi
  have hz := text_size hT
  have eb : B.data.toList.length = B.size := Array.length_toList
  have eseg : seg T A.length (A.length + l.length - A.length) = l := by
    rw [Nat.add_sub_cancel_left]; exact text_seg hT
  refine (zzskip_any T A.length (A.length + l.length) bl w hs (by omega) (by omega) (text_dig hT hd) ?_ ?_).mono ?_
  · rw [text_at hT]; rfl
  · rw [eseg, hv]; omega
  · rintro e w' ⟨rfl, hb⟩
    refine ⟨?_, hb⟩
    rw [eseg, hv, text_cut hT]
    congr 5

theorem walk (a0 : ByteArray) (a1 : ByteArray) (a2 : ByteArray) (a3 : Bool) (w0 : a0.size ≤ maxLen) (w1 : a1.size ≤ maxLen) (w2 : a2.size ≤ maxLen) (w : World) :
    Calls Try.prog 6 #[.string a0, .string a1, .string a2, .bool a3] w fun e w' => e = .returned (.bool true) ∧ Below w.heap.size w w' := by
  go_enter Try.func6, Try.ntmps6
  go_wp2_with fail
  refine (bytes_any a0 a1 a2 a3 w0 w1 w2 _).mono ?_
  rintro e ww ⟨bb, rfl, rfl⟩
  unfold maxLen at w0 w1 w2
  cases bb
  · go_wp2_with fail
    go_ret
    exact ⟨rfl, Below.refl _ _⟩
  · by_cases c0 : 262144 < (a0.size : Int)
    · go_wp2_with fail
      go_ret
      exact ⟨rfl, Below.refl _ _⟩
    · by_cases c1 : 262144 < (a1.size : Int)
      · go_wp2_with fail
        go_ret
        exact ⟨rfl, Below.refl _ _⟩
      · by_cases c2 : 262144 < (a2.size : Int)
        · go_wp2_with fail
          go_ret
          exact ⟨rfl, Below.refl _ _⟩
        · go_wp2_with fail
          refine (fmt_any (a1.size : Int) _ (by omega) (by omega)).mono ?_
          rintro e w3 ⟨l, rfl, hcan, hb⟩
          have hl18 : (l.length : Int) ≤ 18 := by have := canon_len hcan (by omega); omega
          have en : fmtOf (a1.size : Int) l = l := by rw [fmtOf, if_neg (by omega)]
          rw [en]
          have HC : Hid _ := hcan
          clear en hcan
          go_wp2_with fail
          have hT : (a0 ++ ⟨l.toArray⟩ ++ ⟨#[58]⟩ ++ a1 ++ a2).data.toList = a0.data.toList ++ (l ++ 58 :: (a1.data.toList ++ a2.data.toList)) := by simp
          have hz := text_size hT
          have e0 : a0.data.toList.length = a0.size := Array.length_toList
          have e1 : a1.data.toList.length = a1.size := Array.length_toList
          have e2 : a2.data.toList.length = a2.size := Array.length_toList
          refine (zzskip_text _ a0.data.toList l a2.data.toList a1 a3 w3 _ (by rw [e0]) hT (by omega) HC.out.2.1 (by rw [HC.out.2.2.1]; omega)).mono ?_
          rintro e w4 ⟨rfl, hb2⟩
          clear hT hz e0 e1 e2
          go_wp2_with fail
          go_ret
          exact ⟨rfl, hb.trans (hb2.mono hb.size)⟩

end Go.Proofs.Qxb6605330a.fnSkipStringRoundTrip
