/- readLength and modelStringEnd: the walks. -/
import Derived.Test.Qxb6605330aPlain
import Derived.Test.Qxb6605330aSmall
import Derived.Test.Qxb6605330aBase
import Derived.Deep.DeepCutAuto
import Derived.Deep.CutBlock
namespace Go.Proofs.Qxb6605330a
open Go.ChangeShapes Go.WideShapes Go.ChangeAt Go.RowKit
open Plain

def RLPost (D : ByteArray) (limit : Int) (w : World) (e : Ending) (w' : World) : Prop :=
  ∃ v ok, e = .returned (.tuple #[.int .i64 v, .bool ok]) ∧ w' = w ∧ (ok = true → v = (val D.data.toList : Int) ∧ v ≤ limit)
theorem RLPost.mk {D : ByteArray} {limit : Int} {w : World} {e : Ending} {w' : World} (v : Int) (ok : Bool) (h1 : e = .returned (.tuple #[.int .i64 v, .bool ok])) (h2 : w' = w)
    (h3 : ok = true → v = (val D.data.toList : Int) ∧ v ≤ limit) : RLPost D limit w e w' := ⟨v, ok, h1, h2, h3⟩

/-- the last m digits of R -/
theorem val_drop_step (R : ByteArray) (m : Nat) (h : m < R.size) : val (R.data.toList.drop (R.size - (m + 1))) = (R[R.size - (m + 1)].toNat - 48) * 10 ^ m + val (R.data.toList.drop (R.size - m)) := by
  have hl : R.data.toList.length = R.size := Array.length_toList
  have hlen : (R.data.toList.drop (R.size - (m + 1) + 1)).length = m := by rw [List.length_drop, hl]; omega
  rw [List.drop_eq_getElem_cons (by omega), val_cons, hlen]
  have e : R.size - (m + 1) + 1 = R.size - m := by omega
  rw [e]
  rfl

/-- a zero in front counts for nothing -/
theorem val_zeros (l : List UInt8) (k : Nat) (h : ∀ t (ht : t < l.length), t < k → l[t].toNat = 48) : val (l.drop k) = val l := by
  induction k generalizing l with
  | zero => rfl
  | succ k ih =>
    cases l with
    | nil => rfl
    | cons c l =>
      rw [List.drop_succ_cons, ih l (fun t ht h1 => h (t + 1) (by simp; omega) (by omega)), val_cons]
      have := h 0 (by simp) (by omega)
      simp only [List.getElem_cons_zero] at this
      rw [this]; simp

theorem extract_list (s : ByteArray) (i j : Nat) : (s.extract i j).data.toList = seg s i (j - i) := by
  rw [ByteArray.data_extract, Array.toList_extract, List.extract_eq_take_drop]; rfl

set_option maxRecDepth 100000 in
set_option maxHeartbeats 1000000 in
theorem readLength_any (D : ByteArray) (limit : Int) (w : World) (hs : D.size ≤ 1099511627776) (hd : Digs D.data.toList) :
    Calls Try.prog 23 #[.string D, .int .i64 limit] w fun e w' => RLPost D limit w e w' := by
  have HD : Hid _ := hd
  clear hd
  have el : Hid (D.data.toList.length = D.size) := Array.length_toList
  go_enter Try.func23, Try.ntmps23
  go_upto_block 0 with fail
  go_cut [6] (fun x wx => ∃ i : Nat, x = .int .i64 i ∧ i ≤ D.size ∧ (∀ t (ht : t < D.size), t < i → D[t].toNat = 48) ∧ wx = w)
  case first =>
    go_wp2_with fail
    go_loop [6] (fun x => ∃ i : Nat, x = .int .i64 i ∧ i ≤ D.size ∧ (∀ t (ht : t < D.size), t < i → D[t].toNat = 48)) (fun x => D.size - (intOf x).toNat)
    case atStart => exact ⟨0, rfl, Nat.zero_le _, fun t _ h => by omega⟩
    case round =>
      obtain ⟨i, rfl, hi, hz⟩ := hrel
      have HZ : Hid _ := hz
      clear hz
      by_cases c1 : i < D.size
      · have c1' : (i : Int) < (D.size : Int) := by omega
        by_cases c2 : (D[i].toNat : Int) = 48
        · have e2 : ((D[i].toNat : Int) == 48) = true := by rw [c2]; rfl
          have C2 : Hid _ := c2
          clear c2
          go_wp2
          go_round
          case rel =>
            refine ⟨i + 1, by go_num, by omega, ?_⟩
            intro t ht h
            by_cases e : t = i
            · subst e; have := C2.out; omega
            · exact HZ.out t ht (by omega)
          case measure => simp [intOf]; omega
        · have e2 : ((D[i].toNat : Int) == 48) = false := beq_eq_false_iff_ne.2 c2
          go_wp2
          go_meet
          case rel => exact ⟨i, rfl, hi, HZ.out, rfl⟩
      · have d1 : decide ((i : Int) < (D.size : Int)) = false := by simp; omega
        go_wp2
        go_meet
        case rel => exact ⟨i, rfl, hi, HZ.out, rfl⟩
  case rest =>
    obtain ⟨i, rfl, hi, hz, rfl⟩ := hcut
    have HZ : Hid _ := hz
    clear hz
    have hi' : (i : Int) ≤ (D.size : Int) := by omega
    go_upto_region 4 with fail
    go_cut [7] (fun x wx => ∃ R : ByteArray, x = .string R ∧ Digs R.data.toList ∧ val R.data.toList = val D.data.toList ∧ R.size ≤ D.size ∧ wx = wc)
    case first =>
      go_wp2
      go_meet
      case rel =>
        have e : (D.extract i D.size).data.toList = D.data.toList.drop i := by
          rw [extract_list]; unfold seg
          rw [List.take_of_length_le (by rw [List.length_drop, el.out]; omega)]
        refine ⟨_, rfl, ?_, ?_, by simp, rfl⟩
        · rw [e]; exact fun c hc => HD.out c (List.mem_of_mem_drop hc)
        · rw [e]; exact val_zeros _ _ (fun t ht h => HZ.out t (by rw [← el.out]; exact ht) h)
    case rest =>
      obtain ⟨R, rfl, hR, hv, hRs, rfl⟩ := hcut
      have HR : Hid _ := hR
      have HV : Hid _ := hv
      clear hR hv HZ hi hi' HD el
      by_cases c7 : 7 < (R.size : Int)
      · go_wp2
        go_ret2
        exact RLPost.mk 0 false rfl rfl (fun h => by cases h)
      · go_wp2
        go_loop [8, 9, 10] (fun x y z => ∃ q P V : Nat, q ≤ R.size ∧ x = .int .i64 V ∧ y = .int .i64 P ∧ z = .int .i64 ((q : Int) - 1) ∧ P = 10 ^ (R.size - q) ∧ V = val (R.data.toList.drop q)) (fun _ _ z => (intOf z + 1).toNat)
        case atStart =>
          refine ⟨R.size, 1, 0, Nat.le_refl _, rfl, rfl, rfl, by simp, ?_⟩
          rw [List.drop_eq_nil_of_le (by rw [Array.length_toList]; exact Nat.le_refl _)]; rfl
        case round =>
          obtain ⟨q, P, V, hq, rfl, rfl, rfl, hP, hV⟩ := hrel
          have HP : Hid _ := hP
          have HVV : Hid _ := hV
          clear hP hV
          cases q with
          | zero =>
            have hVlim : (V : Int) ≤ limit ∨ limit < (V : Int) := by omega
            rcases hVlim with hVlim | hVlim
            · go_wp2
              go_ret2
              refine RLPost.mk V true rfl rfl (fun _ => ⟨?_, hVlim⟩)
              rw [HVV.out, List.drop_zero, HV.out]
            · go_wp2
              go_ret2
              exact RLPost.mk 0 false rfl rfl (fun h => by cases h)
          | succ r =>
            have e : ((r + 1 : Nat) : Int) - 1 = (r : Int) := by omega
            rw [e]
            clear e
            have hr : r < R.size := by omega
            have hr' : (r : Int) < (R.size : Int) := by omega
            have hP2 : (P : Int) ≤ 1000000 := by
              have h1 : 10 ^ (R.size - (r + 1)) ≤ 10 ^ 6 := Nat.pow_le_pow_right (by omega) (by omega)
              have := HP.out
              omega
            have hdg := HR.out R[r] (by exact List.getElem_mem (l := R.data.toList) (by rw [Array.length_toList]; exact hr))
            have d1 : (48 : Int) ≤ (R[r].toNat : Int) := by omega
            have d2 : (R[r].toNat : Int) ≤ 57 := by omega
            clear hdg
            have m1 : ((R[r].toNat : Int) - 48) * (P : Int) ≤ 9000000 := by
              have : ((R[r].toNat : Int) - 48) * (P : Int) ≤ 9 * (P : Int) := Int.mul_le_mul_of_nonneg_right (by omega) (by omega)
              omega
            have m2 : 0 ≤ ((R[r].toNat : Int) - 48) * (P : Int) := Int.mul_nonneg (by omega) (by omega)
            have hV2 : (V : Int) ≤ 10000000 := by
              have h0 : Digs (R.data.toList.drop (r + 1)) := fun c hc => HR.out c (List.mem_of_mem_drop hc)
              have h1 := val_lt _ h0
              have h2 : (R.data.toList.drop (r + 1)).length ≤ 7 := by rw [List.length_drop, Array.length_toList]; have : R.data.size = R.size := rfl; omega
              have h3 : 10 ^ (R.data.toList.drop (r + 1)).length ≤ 10 ^ 7 := Nat.pow_le_pow_right (by omega) h2
              have := HVV.out
              omega
            go_wp2
            go_round
            case rel =>
              refine ⟨r, P * 10, V + (R[r].toNat - 48) * P, by omega, ?_, by go_num, rfl, ?_, ?_⟩
              · rw [Int.natCast_add, Int.natCast_mul, Int.natCast_sub (by omega)]; rfl
              · have e1 : R.size - r = (R.size - (r + 1)) + 1 := by omega
                rw [HP.out, e1, Nat.pow_succ]
              · have e2 : R.size - (R.size - (r + 1) + 1) = r := by omega
                have e3 : R.size - (R.size - (r + 1)) = r + 1 := by omega
                have := val_drop_step R (R.size - (r + 1)) (by omega)
                simp only [e2, e3] at this
                rw [HVV.out, HP.out, this]; omega
            case measure => simp [intOf]
end Go.Proofs.Qxb6605330a
