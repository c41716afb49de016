/- modelShortNumber: the walk. -/
import Derived.Test.Qxb6605330aModel
namespace Go.Proofs.Qxb6605330a
open Go.ChangeShapes Go.WideShapes Go.ChangeAt Go.RowKit
open Plain

set_option maxRecDepth 100000 in
set_option maxHeartbeats 1000000 in
theorem modelShort_any (s : ByteArray) (i : Nat) (st : Int) (signed : Bool) (w : World) (hs : s.size ≤ 1099511627776) (hst : ¬ (48 ≤ st ∧ st ≤ 57)) (h45 : st ≠ 45) :
    Calls Try.prog 11 #[.string s, .int .i64 i, .int .u8 st, .bool signed] w fun e w' => ZZPost s i st signed w e w' := by
  have HST : Hid (¬ (48 ≤ st ∧ st ≤ 57)) := hst
  have H45 : Hid (st ≠ 45) := h45
  clear hst h45
  go_enter Try.func11, Try.ntmps11
  go_upto_block 0 with fail
  go_cut [11] (fun x wx => ((∃ k : Nat, x = .int .i64 k ∧ FirstAt s i st k) ∨ (x = .int .i64 (-1) ∧ ∀ p (h : p < s.size), i ≤ p → (s[p].toNat : Int) ≠ st)) ∧ wx = w)
  case first =>
    go_wp2_with fail
    go_loop [11, 12] (fun y x => ∃ j : Nat, x = .int .i64 j ∧ y = .int .i64 (-1) ∧ i ≤ j ∧ (∀ p (h : p < s.size), i ≤ p → p < j → (s[p].toNat : Int) ≠ st)) (fun _ x => s.size - (intOf x).toNat)
    case atStart => exact ⟨i, rfl, rfl, Nat.le_refl _, fun p _ h1 h2 => by omega⟩
    case round =>
      obtain ⟨j, rfl, rfl, hij, hn⟩ := hrel
      have HN : Hid (∀ p (h : p < s.size), i ≤ p → p < j → (s[p].toNat : Int) ≠ st) := hn
      clear hn
      by_cases c1 : j < s.size
      · have c1' : (j : Int) < (s.size : Int) := by omega
        by_cases c2 : (s[j].toNat : Int) = st
        · have e2 : ((s[j].toNat : Int) == st) = true := by rw [c2]; simp
          have C2 : Hid ((s[j].toNat : Int) = st) := c2
          clear c2
          go_wp2_with fail
          go_meet
          case rel => exact ⟨Or.inl ⟨j, rfl, hij, ⟨c1, C2.out⟩, HN.out⟩, rfl⟩
        · have e2 : ((s[j].toNat : Int) == st) = false := beq_eq_false_iff_ne.2 c2
          have C2 : Hid (¬ (s[j].toNat : Int) = st) := c2
          clear c2
          go_wp2_with fail
          go_round
          case rel =>
            refine ⟨j + 1, by go_num, rfl, by omega, ?_⟩
            intro p hp h1 h2
            by_cases e : p = j
            · subst e; exact C2.out
            · exact HN.out p hp h1 (by omega)
          case measure => simp [intOf]; omega
      · have d1 : decide ((j : Int) < (s.size : Int)) = false := by simp; omega
        go_wp2_with fail
        go_meet
        case rel => exact ⟨Or.inr ⟨rfl, fun p hp h1 => HN.out p hp h1 (by omega)⟩, rfl⟩
  case rest =>
    obtain ⟨⟨k, rfl, hfi⟩ | ⟨rfl, hno⟩, rfl⟩ := hcut
    · have hk : k < s.size := hfi.2.1.1
      have hik := hfi.1
      have hik' : (i : Int) ≤ (k : Int) := by omega
      have hk' : (k : Int) ≤ (s.size : Int) := by omega
      have HF : Hid (FirstAt s i st k) := hfi
      clear hfi
      go_wp2_with fail
      refine (readSigned_any (s.extract i k) _ (by simp; omega)).mono ?_
      rintro e w2 ⟨v, ok, rfl, rfl, hr⟩
      have hv1 := hr.1
      have hv2 := hr.2.1
      have HR : Hid (Reads (s.extract i k) v ok) := hr
      clear hr
      cases ok
      · go_wp2_with fail
        go_ret3
        exact ZZPost.mk 0 false i rfl (Below.refl _ _) (model_no HST.out H45.out HF.out HR.out (Or.inl rfl))
      by_cases c3 : v < 0 ∧ signed = false
      · obtain ⟨c3, rfl⟩ := c3
        have d3 : decide (v < 0) = true := by simpa using c3
        go_wp2_with fail
        go_ret3
        exact ZZPost.mk 0 false i rfl (Below.refl _ _) (model_no HST.out H45.out HF.out HR.out (Or.inr (Or.inl ⟨c3, rfl⟩)))
      have HSG : Hid (v < 0 → signed = true) := fun h => by
        cases signed with
        | true => rfl
        | false => exact absurd ⟨h, rfl⟩ c3
      clear c3
      by_cases c4 : v < 0
      · have e4 := HSG.out c4
        subst e4
        have d4 : decide (v < 0) = true := by simpa using c4
        go_wp2_with fail
        refine (fmt_any v _ hv1 hv2).mono ?_
        rintro e w3 ⟨l, rfl, hc, hb⟩
        have HC : Hid (Canon l v.natAbs) := hc
        clear hc
        by_cases ce : fmtOf v l = (s.extract i k).toList
        · have de : (!fmtOf v l == (s.extract i k).toList) = false := by rw [ce]; simp
          have CE : Hid (fmtOf v l = (s.extract i k).data.toList) := by rw [ByteArray.toList_eq] at ce; exact ce
          clear ce
          go_wp2_with fail
          go_ret3
          exact ZZPost.mk v true ((k : Int) + 1) rfl hb (model_yes HF.out HR.out (fun _ => rfl) l HC.out CE.out)
        · have de : (!fmtOf v l == (s.extract i k).toList) = true := by simpa using ce
          have CE : Hid (fmtOf v l ≠ (s.extract i k).data.toList) := by rw [ByteArray.toList_eq] at ce; exact ce
          clear ce
          go_wp2_with fail
          go_ret3
          exact ZZPost.mk 0 false i rfl hb (model_no HST.out H45.out HF.out HR.out (Or.inr (Or.inr ⟨l, HC.out, CE.out⟩)))
      · have d4 : decide (v < 0) = false := by simpa using c4
        go_wp2_with fail
        refine (fmt_any v _ hv1 hv2).mono ?_
        rintro e w3 ⟨l, rfl, hc, hb⟩
        have HC : Hid (Canon l v.natAbs) := hc
        clear hc
        by_cases ce : fmtOf v l = (s.extract i k).toList
        · have de : (!fmtOf v l == (s.extract i k).toList) = false := by rw [ce]; simp
          have CE : Hid (fmtOf v l = (s.extract i k).data.toList) := by rw [ByteArray.toList_eq] at ce; exact ce
          clear ce
          go_wp2_with fail
          go_ret3
          exact ZZPost.mk v true ((k : Int) + 1) rfl hb (model_yes HF.out HR.out HSG.out l HC.out CE.out)
        · have de : (!fmtOf v l == (s.extract i k).toList) = true := by simpa using ce
          have CE : Hid (fmtOf v l ≠ (s.extract i k).data.toList) := by rw [ByteArray.toList_eq] at ce; exact ce
          clear ce
          go_wp2_with fail
          go_ret3
          exact ZZPost.mk 0 false i rfl hb (model_no HST.out H45.out HF.out HR.out (Or.inr (Or.inr ⟨l, HC.out, CE.out⟩)))
    · have HN : Hid (∀ p (h : p < s.size), i ≤ p → (s[p].toNat : Int) ≠ st) := hno
      clear hno
      go_wp2_with fail
      go_ret3
      exact ZZPost.mk 0 false i rfl (Below.refl _ _) (Or.inr ⟨rfl, rfl, rfl, acc_none HN.out⟩)
end Go.Proofs.Qxb6605330a
