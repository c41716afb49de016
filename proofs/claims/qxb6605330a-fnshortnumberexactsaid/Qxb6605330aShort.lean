import Derived.Test.Qxb6605330aRows
import Derived.Test.Qxb6605330aShortPlain
import Derived.Test.Qxb6605330aSkip
import Derived.WalkKit
import Derived.ProofKit
import Derived.OpenShut
import Derived.ShutString
import Derived.WalkSpells
import Derived.WalkLawsBesides
import Derived.Deep.QuietTactic
import Derived.BigQuiet
import Derived.Below
import Derived.Deep.DeepCutAuto
import Derived.Deep.CutBlock
namespace Go.Proofs.Qxb6605330a
open Go.ChangeShapes Go.WideShapes Go.ChangeAt Go.RowKit
open Plain

/-- what the call of shortNumber on the decoder at block b comes to -/
def ShortPost (b : Nat) (s : ByteArray) (i : Nat) (st : Int) (signed : Bool) (w : World) (e : Ending) (w' : World) : Prop :=
  ∃ n ok np, e = .returned (.tuple #[.int .i64 n, .bool ok]) ∧ w'.cell? ⟨b, 1, none⟩ = some (.int .i64 np) ∧ Below b w w' ∧ SN s i st signed n ok np
theorem ShortPost.mk {b : Nat} {s : ByteArray} {i : Nat} {st : Int} {signed : Bool} {w : World} {e : Ending} {w' : World} (n : Int) (ok : Bool) (np : Int)
    (h1 : e = .returned (.tuple #[.int .i64 n, .bool ok])) (h2 : w'.cell? ⟨b, 1, none⟩ = some (.int .i64 np)) (h3 : Below b w w') (h4 : SN s i st signed n ok np) : ShortPost b s i st signed w e w' := ⟨n, ok, np, h1, h2, h3, h4⟩

set_option maxRecDepth 100000 in
set_option maxHeartbeats 1000000 in
theorem short_any (b : Nat) (s : ByteArray) (i : Nat) (st : Int) (signed : Bool) (w : World) (hs : s.size ≤ 1099511627776)
    (hc0 : w.cell? ⟨b, 0, none⟩ = some (.string s)) (hc1 : w.cell? ⟨b, 1, none⟩ = some (.int .i64 i)) (hf : w.frozen? ⟨b, 1, none⟩ = false)
    (hst : ¬ (48 ≤ st ∧ st ≤ 57)) :
    Calls Try.prog 21 #[.pointer (some ⟨b, 0, none⟩), .int .u8 st, .bool signed] w fun e w' => ShortPost b s i st signed w e w' := by
  have HST : Hid _ := hst
  clear hst
  go_enter Try.func21, Try.ntmps21
  go_upto_region 2 with fail
  go_cut [9] (fun ng wx => ng = .bool (negB s i signed) ∧ wx = w)
  case first =>
    cases signed
    · go_wp2
      go_meet
      case rel => exact ⟨rfl, rfl⟩
    · by_cases hlt : (i : Int) < (s.size : Int)
      · have e := negB_in (s := s) (i := i) (by omega)
        have E : Hid _ := e
        clear e
        have hlt' : i < s.size := by omega
        go_wp2
        go_meet
        case rel => exact ⟨by rw [E.out], rfl⟩
      · have hd : decide ((i : Int) < (s.size : Int)) = false := by simpa using hlt
        have e := negB_out (s := s) (i := i) (signed := true) (by omega)
        have E : Hid _ := e
        clear e
        go_wp2
        go_meet
        case rel => exact ⟨by rw [E.out], rfl⟩
  case rest =>
    obtain ⟨rfl, rfl⟩ := hcut
    have hng : negB s i signed = true → i < s.size := fun h => by
      apply Decidable.byContradiction; intro hn; rw [negB_out hn] at h; cases h
    have hfr : fromB s i signed = if negB s i signed = true then i + 1 else i := rfl
    have hfin : ∀ (j : Nat) (y : Int), LoopEnd s (fromB s i signed) j y → (Rej s (fromB s i signed) j st (negB s i signed) → ∀ v k, ¬ Acc s i st signed v k) ∧
        (¬ Rej s (fromB s i signed) j st (negB s i signed) → Acc s i st signed (if negB s i signed = true then -y else y) j) :=
      fun j y e => ⟨fun h => rej_of HST.out e h, fun h => acc_of e h⟩
    generalize negB s i signed = ng at *
    generalize fromB s i signed = f at *
    have HN : Hid _ := hng
    have HF : Hid _ := hfr
    have HI : Hid _ := hfin
    clear hng hfr hfin
    go_upto_if 36 with fail
    go_cut [8] (fun x wx => x = .int .i64 f ∧ wx = wc)
    case first =>
      cases ng
      · go_wp2
        go_meet
        case rel => exact ⟨by rw [HF.out]; rfl, rfl⟩
      · have hi := HN.out rfl
        have hi2 : (i : Int) < (s.size : Int) := by omega
        go_wp2
        go_meet
        case rel => exact ⟨by rw [HF.out]; rfl, rfl⟩
    case rest =>
      obtain ⟨rfl, rfl⟩ := hcut
      go_upto_block 0 with fail
      go_cut [8, 11] (fun x n wx => ∃ (j : Nat) (y : Int), x = .int .i64 j ∧ n = .int .i64 y ∧ LoopEnd s f j y ∧ wx = wc)
      case first =>
        clear HI HN HF HST
        go_wp2_with fail
        go_loop [8, 11] (fun x n => ∃ (j : Nat) (y : Int), x = .int .i64 j ∧ n = .int .i64 y ∧ LoopRel s f j y) (fun x _ => f + 20 - (intOf x).toNat)
        case atStart => exact ⟨f, 0, rfl, rfl, LoopRel.start s f⟩
        case round =>
          obtain ⟨j, y, rfl, rfl, hl⟩ := hrel
          have h1 := hl.le
          have h2 := hl.cap
          have HL : Hid _ := hl
          clear hl
          by_cases c1 : j < s.size
          · have c1' : (j : Int) < (s.size : Int) := by omega
            by_cases c2 : j ≤ f + 18
            · have c2' : (j : Int) - f ≤ 18 := by omega
              by_cases c3 : 48 ≤ (s[j].toNat : Int)
              · by_cases c4 : (s[j].toNat : Int) ≤ 57
                · by_cases c5 : j < f + 18
                  · have hy1 := (HL.out.num_lt' c5).1
                    have hy2 := (HL.out.num_lt' c5).2
                    go_wp2
                    go_round
                    case rel => exact ⟨j + 1, _, by go_num, rfl, HL.out.step c1 c2 (by omega) (by omega) (fun _ => rfl)⟩
                    case measure => simp [intOf]; omega
                  · go_wp2
                    go_round
                    case rel => exact ⟨j + 1, _, by go_num, rfl, HL.out.step c1 c2 (by omega) (by omega) (fun h => absurd h c5)⟩
                    case measure => simp [intOf]; omega
                · have d4 : decide ((s[j].toNat : Int) ≤ 57) = false := by simpa using c4
                  go_wp2
                  go_meet
                  case rel => exact ⟨j, y, rfl, rfl, ⟨HL.out, fun _ _ => by omega⟩, rfl⟩
              · have d3 : decide (48 ≤ (s[j].toNat : Int)) = false := by simpa using c3
                go_wp2
                go_meet
                case rel => exact ⟨j, y, rfl, rfl, ⟨HL.out, fun _ _ => by omega⟩, rfl⟩
            · have d2 : decide ((j : Int) - f ≤ 18) = false := by simp; omega
              go_wp2
              go_meet
              case rel => exact ⟨j, y, rfl, rfl, ⟨HL.out, fun h => by omega⟩, rfl⟩
          · have d1 : decide ((j : Int) < (s.size : Int)) = false := by simp; omega
            go_wp2
            go_meet
            case rel => exact ⟨j, y, rfl, rfl, ⟨HL.out, fun _ h => absurd h c1⟩, rfl⟩
      case rest =>
        obtain ⟨j, y, rfl, rfl, hl, rfl⟩ := hcut
        have h1 := hl.le
        have h2 := hl.cap
        have h3 := hl.inn
        have HL : Hid _ := hl
        have H3 : Hid _ := h3
        clear hl h3
        go_upto_region 11 with fail
        go_cut [127] (fun c wx => ∃ r : Bool, c = .bool r ∧ (r = true → Rej s f j st ng) ∧ (r = false → ¬ Rej s f j st ng) ∧ wx = wc)
        case first =>
          clear HI HN HF HST
          by_cases c1 : j = f
          · have e1 : ((j : Int) - f == 0) = true := by simp; omega
            clear c1
            go_wp2
            go_meet
            case rel => exact ⟨true, rfl, fun _ => Or.inl (by simp at e1; omega), fun h => (by cases h), rfl⟩
          · have hin : j ≤ s.size := H3.out (by omega)
            have e1 : ((j : Int) - f == 0) = false := beq_eq_false_iff_ne.2 (by omega)
            by_cases c2 : f + 18 < j
            · have e2 : decide (18 < (j : Int) - f) = true := by simp; omega
              go_wp2
              go_meet
              case rel => exact ⟨true, rfl, fun _ => Or.inr (Or.inl c2), fun h => (by cases h), rfl⟩
            · have e2 : decide (18 < (j : Int) - f) = false := by simp; omega
              by_cases c3 : j = s.size
              · have e3 : ((j : Int) == (s.size : Int)) = true := by simp; omega
                have C3 : Hid _ := c3
                clear c3
                go_wp2
                go_meet
                case rel => exact ⟨true, rfl, fun _ => Or.inr (Or.inr (Or.inl C3.out)), fun h => (by cases h), rfl⟩
              · have e3 : ((j : Int) == (s.size : Int)) = false := beq_eq_false_iff_ne.2 (by omega)
                have hjs : j < s.size := by omega
                have hjs' : (j : Int) < (s.size : Int) := by omega
                have hfs : f < s.size := by omega
                have hfs' : (f : Int) < (s.size : Int) := by omega
                by_cases c4 : (s[j].toNat : Int) = st
                · have e4 : ((s[j].toNat : Int) != st) = false := by rw [c4]; simp
                  have C4 : Hid _ := c4
                  clear c4
                  by_cases c5 : (s[f].toNat : Int) = 48
                  · have e5 : ((s[f].toNat : Int) == 48) = true := by rw [c5]; rfl
                    have C5 : Hid _ := c5
                    clear c5
                    by_cases c6 : f + 1 < j
                    · have e6 : decide (1 < (j : Int) - f) = true := by simp; omega
                      go_wp2
                      go_meet
                      case rel => exact ⟨true, rfl, fun _ => Or.inr (Or.inr (Or.inr (Or.inr ⟨hfs, C5.out, Or.inl c6⟩))), fun h => (by cases h), rfl⟩
                    · have e6 : decide (1 < (j : Int) - f) = false := by simp; omega
                      cases ng
                      · go_wp2
                        go_meet
                        case rel =>
                          refine ⟨false, rfl, fun h => (by cases h), fun _ => ?_, rfl⟩
                          rintro (h | h | h | ⟨_, h⟩ | ⟨_, _, h | h⟩)
                          · exact c1 h
                          · exact c2 h
                          · exact c3 h
                          · exact h C4.out
                          · exact c6 h
                          · cases h
                      · go_wp2
                        go_meet
                        case rel => exact ⟨true, rfl, fun _ => Or.inr (Or.inr (Or.inr (Or.inr ⟨hfs, C5.out, Or.inr rfl⟩))), fun h => (by cases h), rfl⟩
                  · have e5 : ((s[f].toNat : Int) == 48) = false := beq_eq_false_iff_ne.2 c5
                    go_wp2
                    go_meet
                    case rel =>
                      refine ⟨false, rfl, fun h => (by cases h), fun _ => ?_, rfl⟩
                      rintro (h | h | h | ⟨_, h⟩ | ⟨_, h, _⟩)
                      · exact c1 h
                      · exact c2 h
                      · exact c3 h
                      · exact h C4.out
                      · exact c5 h
                · have e4 : ((s[j].toNat : Int) != st) = true := by rw [bne_iff_ne]; exact c4
                  go_wp2
                  go_meet
                  case rel => exact ⟨true, rfl, fun _ => Or.inr (Or.inr (Or.inr (Or.inl ⟨hjs, c4⟩))), fun h => (by cases h), rfl⟩
        case rest =>
          obtain ⟨r, rfl, hr1, hr0, rfl⟩ := hcut
          have HR1 : Hid _ := hr1
          have HR0 : Hid _ := hr0
          clear hr1 hr0
          cases r
          · have hac := (HI.out j y HL.out).2 (HR0.out rfl)
            have hj18 : j ≤ f + 18 := by
              apply Nat.le_of_not_lt; intro h; exact HR0.out rfl (Or.inr (Or.inl h))
            have hy1 := (HL.out.num_lt hj18).1
            have hy2 := (HL.out.num_lt hj18).2
            have hjs : (j : Int) < s.size := by
              obtain ⟨_, ⟨h, _⟩, _⟩ := hac; omega
            have HA : Hid _ := hac
            clear hac
            have D := dec_step hc0 hc1 hf (Below.refl b _) 0 ((j : Int) + 1)
            cases ng
            · go_wp2
              go_ret2
              exact ShortPost.mk y true ((j : Int) + 1) rfl D.2.1 D.2.2.2 (Or.inl ⟨rfl, j, HA.out, rfl⟩)
            · go_wp2
              go_ret2
              exact ShortPost.mk (-y) true ((j : Int) + 1) rfl D.2.1 D.2.2.2 (Or.inl ⟨rfl, j, HA.out, rfl⟩)
          · have HA : Hid _ := (HI.out j y HL.out).1 (HR1.out rfl)
            go_wp2
            go_ret2
            exact ShortPost.mk 0 false i rfl hc1 (Below.refl _ _) (Or.inr ⟨rfl, rfl, rfl, HA.out⟩)
end Go.Proofs.Qxb6605330a
