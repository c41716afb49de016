import Derived.Test.Qxb6605330aBase
import Derived.Test.Qxb6605330aSkip
import Derived.Test.Qxb6605330aLen
namespace Go.Proofs.Qxb6605330a.fnSkipStringExact
open Go.ChangeShapes Go.WideShapes Go.ChangeAt Go.RowKit
open Plain

/-- a well-formed string stands at i: its colon at j -/
def StrAt (s : ByteArray) (i j : Nat) : Prop :=
  i ≤ j ∧ (∃ h : j < s.size, (s[j]'h).toNat = 58) ∧ (∀ p (h : p < s.size), i ≤ p → p < j → 48 ≤ s[p].toNat ∧ s[p].toNat ≤ 57) ∧ j + 1 + val (seg s i (j - i)) ≤ s.size

def MSPost (s : ByteArray) (i : Nat) (w : World) (e : Ending) (w' : World) : Prop :=
  w' = w ∧ (e = .returned (.tuple #[.int .i64 0, .int .i64 0, .bool false]) ∨ ∃ j : Nat, e = .returned (.tuple #[.int .i64 j, .int .i64 ((j : Int) + 1 + (val (seg s i (j - i)) : Int)), .bool true]) ∧ StrAt s i j)
theorem MSPost.no {s : ByteArray} {i : Nat} {w : World} {e : Ending} {w' : World} (h1 : e = .returned (.tuple #[.int .i64 0, .int .i64 0, .bool false])) (h2 : w' = w) : MSPost s i w e w' := ⟨h2, Or.inl h1⟩
theorem MSPost.yes {s : ByteArray} {i : Nat} {w : World} {e : Ending} {w' : World} (j : Nat) (h1 : e = .returned (.tuple #[.int .i64 j, .int .i64 ((j : Int) + 1 + (val (seg s i (j - i)) : Int)), .bool true]))
    (h2 : w' = w) (h3 : StrAt s i j) : MSPost s i w e w' := ⟨h2, Or.inr ⟨j, h1, h3⟩⟩

theorem digs_seg {s : ByteArray} {i j : Nat} (h : ∀ p (h : p < s.size), i ≤ p → p < j → 48 ≤ s[p].toNat ∧ s[p].toNat ≤ 57) : Digs (seg s i (j - i)) := by
  intro c hc
  obtain ⟨t, ht, rfl⟩ := List.getElem_of_mem hc
  unfold seg at ht ⊢
  rw [List.getElem_take, List.getElem_drop]
  rw [List.length_take, List.length_drop, Array.length_toList] at ht
  have e : s.data.size = s.size := rfl
  exact h (i + t) (by omega) (by omega) (by omega)

set_option maxRecDepth 100000 in
set_option maxHeartbeats 1000000 in
theorem model_any (s : ByteArray) (i : Nat) (w : World) (hs : s.size ≤ 1099511627776) :
    Calls Try.prog 15 #[.string s, .int .i64 i] w fun e w' => MSPost s i w e w' := by
  go_enter Try.func15, Try.ntmps15
  go_upto_block 0 with fail
  go_cut [7] (fun x wx => ∃ j : Nat, x = .int .i64 j ∧ i ≤ j ∧ (i < j → j ≤ s.size) ∧ (∀ p (h : p < s.size), i ≤ p → p < j → 48 ≤ s[p].toNat ∧ s[p].toNat ≤ 57) ∧ wx = w)
  case first =>
    go_wp2_with fail
    go_loop [7] (fun x => ∃ j : Nat, x = .int .i64 j ∧ i ≤ j ∧ (i < j → j ≤ s.size) ∧ (∀ p (h : p < s.size), i ≤ p → p < j → 48 ≤ s[p].toNat ∧ s[p].toNat ≤ 57)) (fun x => s.size - (intOf x).toNat)
    case atStart => exact ⟨i, rfl, Nat.le_refl _, fun h => by omega, fun p _ h1 h2 => by omega⟩
    case round =>
      obtain ⟨j, rfl, hj, hin, hd⟩ := hrel
      have HIN : Hid _ := hin
      have HD : Hid _ := hd
      clear hin hd
      by_cases c1 : j < s.size
      · have c1' : (j : Int) < (s.size : Int) := by omega
        by_cases c2 : 48 ≤ (s[j].toNat : Int) ∧ (s[j].toNat : Int) ≤ 57
        · have C2 : Hid _ := c2
          clear c2
          go_wp2_with fail
          refine (isdig_yes _ _ C2.out.1 C2.out.2).mono ?_
          rintro e w2 ⟨rfl, rfl⟩
          go_wp2_with fail
          go_round
          case rel =>
            refine ⟨j + 1, by go_num, by omega, fun _ => by omega, ?_⟩
            intro p hp h1 h2
            by_cases e : p = j
            · subst e; have := C2.out; omega
            · exact HD.out p hp h1 (by omega)
          case measure => simp [intOf]; omega
        · have C2 : Hid _ := c2
          clear c2
          go_wp2_with fail
          refine (isdig_no _ _ C2.out).mono ?_
          rintro e w2 ⟨rfl, rfl⟩
          go_wp2_with fail
          go_meet
          case rel => exact ⟨j, rfl, hj, HIN.out, HD.out, rfl⟩
      · have d1 : decide ((j : Int) < (s.size : Int)) = false := by simp; omega
        go_wp2_with fail
        go_meet
        case rel => exact ⟨j, rfl, hj, HIN.out, HD.out, rfl⟩
  case rest =>
    obtain ⟨j, rfl, hj, hin, hd, rfl⟩ := hcut
    have HIN : Hid _ := hin
    have HD : Hid _ := hd
    clear hin hd
    by_cases c1 : j < s.size
    · have c1' : (j : Int) < (s.size : Int) := by omega
      have c1b : decide ((s.size : Int) ≤ (j : Int)) = false := by simp; omega
      by_cases c2 : (s[j].toNat : Int) = 58
      · have e2 : ((s[j].toNat : Int) != 58) = false := by rw [c2]; rfl
        have C2 : Hid _ := c2
        clear c2
        have hij' : (i : Int) ≤ (j : Int) := by omega
        go_wp2_with fail
        have hdd : Digs (s.extract i j).data.toList := by rw [extract_list]; exact digs_seg HD.out
        refine (readLength_any (s.extract i j) _ _ (by simp; omega) hdd).mono ?_
        rintro e w2 ⟨v, ok, rfl, rfl, hok⟩
        have HO : Hid _ := hok
        clear hok hdd
        cases ok
        · go_wp2_with fail
          go_ret3
          exact MSPost.no rfl rfl
        · have ho := HO.out rfl
          rw [extract_list] at ho
          obtain ⟨rfl, hle⟩ := ho
          have h0 : 0 ≤ (val (seg s i (j - i)) : Int) := Int.natCast_nonneg _
          go_wp2_with fail
          go_ret3
          exact MSPost.yes j rfl rfl ⟨hj, ⟨c1, by have := C2.out; omega⟩, HD.out, by omega⟩
      · have e2 : ((s[j].toNat : Int) != 58) = true := by rw [bne_iff_ne]; exact c2
        go_wp2_with fail
        go_ret3
        exact MSPost.no rfl rfl
    · have c1b : decide ((s.size : Int) ≤ (j : Int)) = true := by simp; omega
      go_wp2_with fail
      go_ret3
      exact MSPost.no rfl rfl

theorem bytes_any (a0 : ByteArray) (a1 : Int) (a2 : Bool) (w0 : a0.size ≤ maxLen) (w : World) :
    Calls Try.prog 14 #[.string a0, .int .i64 a1, .bool a2] w fun e w' => ∃ bb : Bool, e = .returned (.bool bb) ∧ w' = w := by
  unfold maxLen at w0
  go_enter Try.func14, Try.ntmps14
  go_wp2
  all_goals (go_ret; exact ⟨_, rfl, rfl⟩)

set_option maxHeartbeats 1000000 in
theorem walk (a0 : ByteArray) (a1 : Int) (a2 : Bool) (w0 : a0.size ≤ maxLen) (_w1 : (Lit.int .i64 a1).wf = true) (w : World) :
    Calls Try.prog 5 #[.string a0, .int .i64 a1, .bool a2] w fun e w' => e = .returned (.bool true) ∧ Below w.heap.size w w' := by
  clear _w1
  go_enter Try.func5, Try.ntmps5
  go_wp2_with fail
  refine (bytes_any a0 a1 a2 w0 _).mono ?_
  rintro e ww ⟨bb, rfl, rfl⟩
  unfold maxLen at w0
  cases bb
  · go_wp2_with fail
    go_ret
    exact ⟨rfl, Below.refl _ _⟩
  by_cases c0 : 1048576 < (a0.size : Int)
  · go_wp2_with fail
    go_ret
    exact ⟨rfl, Below.refl _ _⟩
  by_cases c1 : a1 < 0
  · go_wp2_with fail
    go_ret
    exact ⟨rfl, Below.refl _ _⟩
  obtain ⟨i, rfl⟩ := Int.eq_ofNat_of_zero_le (a := a1) (by omega)
  have hs : a0.size ≤ 1099511627776 := by omega
  clear w0 c1
  go_wp2_with fail
  refine (model_any a0 i _ hs).mono ?_
  rintro e w3 ⟨rfl, rfl | ⟨j, rfl, hij, ⟨hj, hcol⟩, hd, hv⟩⟩
  · go_wp2_with fail
    go_ret
    exact ⟨rfl, Below.refl _ _⟩
  · have HD : Hid _ := hd
    have HC : Hid _ := hcol
    clear hd hcol
    have hv' : (j : Int) + 1 + (val (seg a0 i (j - i)) : Int) ≤ (a0.size : Int) := by omega
    have hvn : 0 ≤ (val (seg a0 i (j - i)) : Int) := Int.natCast_nonneg _
    go_wp2_with fail
    refine (zzskip_any a0 i j a2 _ hs hij hj HD.out HC.out hv).mono ?_
    rintro e w4 ⟨rfl, hb⟩
    go_wp2_with fail
    go_ret
    exact ⟨rfl, hb⟩
end Go.Proofs.Qxb6605330a.fnSkipStringExact
