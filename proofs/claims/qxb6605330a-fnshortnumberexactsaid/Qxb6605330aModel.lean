/- readSigned and modelShortNumber: the walks. -/
import Derived.Test.Qxb6605330aRSPlain
import Derived.Test.Qxb6605330aLen
import Derived.Test.Qxb6605330aFmt
import Derived.Test.Qxb6605330aZZShort
namespace Go.Proofs.Qxb6605330a
open Go.ChangeShapes Go.WideShapes Go.ChangeAt Go.RowKit
open Plain

def RSPost (T : ByteArray) (w : World) (e : Ending) (w' : World) : Prop :=
  ∃ v ok, e = .returned (.tuple #[.int .i64 v, .bool ok]) ∧ w' = w ∧ Reads T v ok
theorem RSPost.mk {T : ByteArray} {w : World} {e : Ending} {w' : World} (v : Int) (ok : Bool) (h1 : e = .returned (.tuple #[.int .i64 v, .bool ok])) (h2 : w' = w) (h3 : Reads T v ok) : RSPost T w e w' := ⟨v, ok, h1, h2, h3⟩

set_option maxRecDepth 100000 in
set_option maxHeartbeats 1000000 in
theorem readSigned_any (T : ByteArray) (w : World) (hs : T.size ≤ 1099511627776) :
    Calls Try.prog 22 #[.string T] w fun e w' => RSPost T w e w' := by
  by_cases c0 : T.size = 0
  · have e0 : ((T.size : Int) == 0) = true := by rw [c0]; rfl
    have C0 : Hid _ := c0
    clear c0
    go_enter Try.func22, Try.ntmps22
    go_wp2
    go_ret2
    exact RSPost.mk 0 false rfl rfl (reads_empty C0.out)
  have e0 : ((T.size : Int) == 0) = false := beq_eq_false_iff_ne.2 (by omega)
  have h0 : 0 < T.size := by omega
  have h0' : (0 : Int) < (T.size : Int) := by omega
  go_enter Try.func22, Try.ntmps22
  go_upto_if 15 with fail
  go_cut [4, 5] (fun x y wx => ∃ (neg : Bool) (start : Nat), x = .int .i64 start ∧ y = .bool neg ∧ Sgn T neg start ∧ wx = w)
  case first =>
    by_cases c1 : (T[0].toNat : Int) = 45
    · have e1 : ((T[0].toNat : Int) == 45) = true := by rw [c1]; rfl
      have C1 : Hid _ := c1
      clear c1
      go_wp2
      go_meet
      case rel => exact ⟨true, 1, rfl, rfl, Or.inl ⟨rfl, rfl, h0, by have := C1.out; omega⟩, rfl⟩
    · have e1 : ((T[0].toNat : Int) == 45) = false := beq_eq_false_iff_ne.2 c1
      go_wp2
      go_meet
      case rel => exact ⟨false, 0, rfl, rfl, Or.inr ⟨rfl, rfl, h0, by omega⟩, rfl⟩
  case rest =>
    obtain ⟨neg, start, rfl, rfl, hsg, rfl⟩ := hcut
    have hst : start ≤ 1 := by
      rcases hsg with ⟨_, h, _⟩ | ⟨_, h, _⟩ <;> omega
    have HS : Hid _ := hsg
    clear hsg
    by_cases c1 : T.size - start = 0
    · have e1 : ((T.size : Int) - start == 0) = true := by simp; omega
      have C1 : Hid _ := c1
      clear c1
      go_wp2
      go_ret2
      exact RSPost.mk 0 false rfl rfl (reads_len HS.out (Or.inl C1.out))
    have e1 : ((T.size : Int) - start == 0) = false := beq_eq_false_iff_ne.2 (by omega)
    by_cases c2 : 18 < T.size - start
    · have e2 : decide (18 < (T.size : Int) - start) = true := by simp; omega
      go_wp2
      go_ret2
      exact RSPost.mk 0 false rfl rfl (reads_len HS.out (Or.inr c2))
    have e2 : decide (18 < (T.size : Int) - start) = false := by simp; omega
    go_wp2
    go_loop [6, 7, 8] (fun x y z => ∃ q P V : Nat, start ≤ q ∧ q ≤ T.size ∧ x = .int .i64 V ∧ y = .int .i64 P ∧ z = .int .i64 ((q : Int) - 1) ∧ P = 10 ^ (T.size - q) ∧ V = val (T.data.toList.drop q) ∧ Digs (T.data.toList.drop q)) (fun _ _ z => (intOf z + 1).toNat)
    case atStart =>
      have e : T.data.toList.drop T.size = [] := List.drop_eq_nil_of_le (by rw [Array.length_toList]; exact Nat.le_refl _)
      refine ⟨T.size, 1, 0, by omega, Nat.le_refl _, rfl, rfl, rfl, by simp, ?_, ?_⟩
      · rw [e]; rfl
      · rw [e]; exact Digs.nil
    case round =>
      obtain ⟨q, P, V, hq0, hq, rfl, rfl, rfl, hP, hV, hdq⟩ := hrel
      have HP : Hid _ := hP
      have HV : Hid _ := hV
      have HD : Hid _ := hdq
      clear hP hV hdq
      by_cases cq : q = start
      · subst cq
        have e3 : decide ((q : Int) ≤ (q : Int) - 1) = false := by simp; omega
        have hv2 : (V : Int) < 1000000000000000000 := by
          have h1 := val_lt _ HD.out
          have e : T.data.toList.length = T.size := Array.length_toList
          have h3 : 10 ^ (T.data.toList.drop q).length ≤ 10 ^ 18 := Nat.pow_le_pow_right (by omega) (by rw [List.length_drop]; omega)
          have := HV.out
          omega
        have hr := reads_yes HS.out HD.out (by omega)
        rw [← HV.out] at hr
        cases neg
        · have HR : Hid (Reads T (V : Int) true) := hr
          clear hr
          go_wp2
          go_ret2
          exact RSPost.mk V true rfl rfl HR.out
        · have HR : Hid (Reads T (-(V : Int)) true) := hr
          clear hr
          go_wp2
          go_ret2
          exact RSPost.mk (-(V : Int)) true rfl rfl HR.out
      · obtain ⟨r, rfl⟩ : ∃ r, q = r + 1 := ⟨q - 1, by omega⟩
        have e : ((r + 1 : Nat) : Int) - 1 = (r : Int) := by omega
        rw [e]
        clear e
        have hr : r < T.size := by omega
        have hr' : (r : Int) < (T.size : Int) := by omega
        have hsr : (start : Int) ≤ (r : Int) := by omega
        by_cases cd : 48 ≤ (T[r].toNat : Int) ∧ (T[r].toNat : Int) ≤ 57
        · obtain ⟨d1, d2⟩ := cd
          have hP2 : (P : Int) ≤ 100000000000000000 := by
            have h1 : 10 ^ (T.size - (r + 1)) ≤ 10 ^ 17 := Nat.pow_le_pow_right (by omega) (by omega)
            have := HP.out
            omega
          have m1 : ((T[r].toNat : Int) - 48) * (P : Int) ≤ 900000000000000000 := by
            have : ((T[r].toNat : Int) - 48) * (P : Int) ≤ 9 * (P : Int) := Int.mul_le_mul_of_nonneg_right (by omega) (by omega)
            omega
          have m2 : 0 ≤ ((T[r].toNat : Int) - 48) * (P : Int) := Int.mul_nonneg (by omega) (by omega)
          have hV2 : (V : Int) ≤ 1000000000000000000 := by
            have h1 := val_lt _ HD.out
            have e : T.data.toList.length = T.size := Array.length_toList
            have h3 : 10 ^ (T.data.toList.drop (r + 1)).length ≤ 10 ^ 18 := Nat.pow_le_pow_right (by omega) (by rw [List.length_drop]; omega)
            have := HV.out
            omega
          go_wp2_with fail
          refine (isdig_yes _ _ d1 d2).mono ?_
          rintro e w2 ⟨rfl, rfl⟩
          go_wp2_with fail
          go_round
          case rel =>
            have e2 : T.size - (T.size - (r + 1) + 1) = r := by omega
            have e3 : T.size - (T.size - (r + 1)) = r + 1 := by omega
            refine ⟨r, P * 10, V + (T[r].toNat - 48) * P, by omega, by omega, ?_, by go_num, rfl, ?_, ?_, ?_⟩
            · rw [Int.natCast_add, Int.natCast_mul, Int.natCast_sub (by omega)]; rfl
            · have e1 : T.size - r = (T.size - (r + 1)) + 1 := by omega
              rw [HP.out, e1, Nat.pow_succ]
            · have := val_drop_step T (T.size - (r + 1)) (by omega)
              simp only [e2, e3] at this
              rw [HV.out, HP.out, this]; omega
            · rw [List.drop_eq_getElem_cons (by rw [Array.length_toList]; exact hr)]
              exact Digs.cons (by exact Int.ofNat_le.1 d1) (by exact Int.ofNat_le.1 d2) HD.out
          case measure => simp [intOf]
        · have CD : Hid _ := cd
          clear cd
          go_wp2_with fail
          refine (isdig_no _ _ CD.out).mono ?_
          rintro e w2 ⟨rfl, rfl⟩
          go_wp2_with fail
          go_ret2
          exact RSPost.mk 0 false rfl rfl (reads_bad HS.out r hr (by omega) (fun h => CD.out ⟨by omega, by omega⟩))
end Go.Proofs.Qxb6605330a
