import Derived.Test.Qxb6600573aBase
import Derived.WalkSpells
import Derived.WalkLawsBesides
namespace Go.Proofs.Qxb6600573a.fnMinBodyLengthByteOrderUnambiguous
open Go.ChangeShapes Go.WideShapes Go.ChangeAt Go.RowKit

theorem swap_any (x : Int) (w : World) : Calls Try.prog 6 #[.int .u32 x] w fun e w' => ∃ y, e = .returned (.int .u32 y) ∧ w' = w := by
  go_enter Try.func6, Try.ntmps6
  go_wp2
  go_ret
  exact ⟨_, rfl, rfl⟩

/-- minBodyLength answers something, whatever the type -/
def MinPost (w : World) (e : Ending) (w' : World) : Prop := ∃ n ok, e = .returned (.tuple #[.int .i64 n, .bool ok]) ∧ w' = w
theorem MinPost.mk {w : World} {e : Ending} {w' : World} (n : Int) (ok : Bool) (h1 : e = .returned (.tuple #[.int .i64 n, .bool ok])) (h2 : w' = w) : MinPost w e w' := ⟨n, ok, h1, h2⟩

theorem min_any (x : Int) (w : World) : Calls Try.prog 7 #[.int .u32 x] w fun e w' => MinPost w e w' := by
  by_cases c0 : x = 168627466
  · subst c0
    go_enter Try.func7, Try.ntmps7
    go_wp2
    go_ret2
    exact MinPost.mk 16 true rfl rfl
  have e0 : (x == 168627466) = false := beq_eq_false_iff_ne.2 c0
  by_cases c1 : x = 1
  · subst c1
    go_enter Try.func7, Try.ntmps7
    go_wp2
    go_ret2
    exact MinPost.mk 8 true rfl rfl
  have e1 : (x == 1) = false := beq_eq_false_iff_ne.2 c1
  by_cases c2 : x = 2
  · subst c2
    go_enter Try.func7, Try.ntmps7
    go_wp2
    go_ret2
    exact MinPost.mk 20 true rfl rfl
  have e2 : (x == 2) = false := beq_eq_false_iff_ne.2 c2
  by_cases c3 : x = 3
  · subst c3
    go_enter Try.func7, Try.ntmps7
    go_wp2
    go_ret2
    exact MinPost.mk 4 true rfl rfl
  have e3 : (x == 3) = false := beq_eq_false_iff_ne.2 c3
  by_cases c6 : x = 6
  · subst c6
    go_enter Try.func7, Try.ntmps7
    go_wp2
    go_ret2
    exact MinPost.mk 20 true rfl rfl
  have e6 : (x == 6) = false := beq_eq_false_iff_ne.2 c6
  go_enter Try.func7, Try.ntmps7
  go_wp2
  go_ret2
  exact MinPost.mk 0 false rfl rfl

theorem min_no (x : Int) (w : World) (e0 : (x == 168627466) = false) (e1 : (x == 1) = false) (e2 : (x == 2) = false) (e3 : (x == 3) = false) (e6 : (x == 6) = false) :
    Calls Try.prog 7 #[.int .u32 x] w fun e w' => e = .returned (.tuple #[.int .i64 0, .bool false]) ∧ w' = w := by
  go_enter Try.func7, Try.ntmps7
  go_wp2
  go_ret2
  exact ⟨rfl, rfl⟩

theorem zz_any (x : Int) (w : World) : Calls Try.prog 5 #[.int .u32 x] w fun e w' => MinPost w e w' := by
  go_enter Try.func5, Try.ntmps5
  go_wp2_with fail
  refine (min_any x _).mono ?_
  rintro e w1 ⟨n, ok, rfl, rfl⟩
  go_wp2_with fail
  go_ret2
  exact MinPost.mk n ok rfl rfl

theorem zz_no (x : Int) (w : World) (e0 : (x == 168627466) = false) (e1 : (x == 1) = false) (e2 : (x == 2) = false) (e3 : (x == 3) = false) (e6 : (x == 6) = false) :
    Calls Try.prog 5 #[.int .u32 x] w fun e w' => e = .returned (.tuple #[.int .i64 0, .bool false]) ∧ w' = w := by
  go_enter Try.func5, Try.ntmps5
  go_wp2_with fail
  refine (min_no x _ e0 e1 e2 e3 e6).mono ?_
  rintro e w1 ⟨rfl, rfl⟩
  go_wp2_with fail
  go_ret2
  exact ⟨rfl, rfl⟩

/-- the five types that are read: everything is reckoned -/
theorem at_shb (w : World) : Calls Try.prog 4 #[.int .u32 168627466] w fun e w' => e = .returned (.bool true) ∧ w' = w := by
  go_enter Try.func4, Try.ntmps4
  go_wp2
  go_ret
  exact ⟨rfl, rfl⟩
theorem at_1 (w : World) : Calls Try.prog 4 #[.int .u32 1] w fun e w' => e = .returned (.bool true) ∧ w' = w := by
  go_enter Try.func4, Try.ntmps4
  go_wp2
  go_ret
  exact ⟨rfl, rfl⟩
theorem at_2 (w : World) : Calls Try.prog 4 #[.int .u32 2] w fun e w' => e = .returned (.bool true) ∧ w' = w := by
  go_enter Try.func4, Try.ntmps4
  go_wp2
  go_ret
  exact ⟨rfl, rfl⟩
theorem at_3 (w : World) : Calls Try.prog 4 #[.int .u32 3] w fun e w' => e = .returned (.bool true) ∧ w' = w := by
  go_enter Try.func4, Try.ntmps4
  go_wp2
  go_ret
  exact ⟨rfl, rfl⟩
theorem at_6 (w : World) : Calls Try.prog 4 #[.int .u32 6] w fun e w' => e = .returned (.bool true) ∧ w' = w := by
  go_enter Try.func4, Try.ntmps4
  go_wp2
  go_ret
  exact ⟨rfl, rfl⟩

theorem walk (a0 : Int) (_w0 : (Lit.int .u32 a0).wf = true) (w : World) :
    Calls Try.prog 4 #[.int .u32 a0] w fun e w' => e = .returned (.bool true) ∧ Below w.heap.size w w' := by
  clear _w0
  have fin : ∀ (e : Ending) (w' : World), (e = .returned (.bool true) ∧ w' = w) → e = .returned (.bool true) ∧ Below w.heap.size w w' := by
    rintro e w' ⟨h, rfl⟩
    exact ⟨h, Below.refl _ _⟩
  by_cases c0 : a0 = 168627466
  · subst c0; exact (at_shb w).mono fin
  by_cases c1 : a0 = 1
  · subst c1; exact (at_1 w).mono fin
  by_cases c2 : a0 = 2
  · subst c2; exact (at_2 w).mono fin
  by_cases c3 : a0 = 3
  · subst c3; exact (at_3 w).mono fin
  by_cases c6 : a0 = 6
  · subst c6; exact (at_6 w).mono fin
  clear fin
  have e0 : (a0 == 168627466) = false := beq_eq_false_iff_ne.2 c0
  have e1 : (a0 == 1) = false := beq_eq_false_iff_ne.2 c1
  have e2 : (a0 == 2) = false := beq_eq_false_iff_ne.2 c2
  have e3 : (a0 == 3) = false := beq_eq_false_iff_ne.2 c3
  have e6 : (a0 == 6) = false := beq_eq_false_iff_ne.2 c6
  go_enter Try.func4, Try.ntmps4
  go_wp2_with fail
  refine (swap_any a0 _).mono ?_
  rintro e w1 ⟨y, rfl, rfl⟩
  go_wp2_with fail
  refine (zz_no a0 _ e0 e1 e2 e3 e6).mono ?_
  rintro e w2 ⟨rfl, rfl⟩
  go_wp2_with fail
  refine (zz_any y _).mono ?_
  rintro e w3 ⟨n, ok, rfl, rfl⟩
  go_wp2_with fail
  go_ret
  exact ⟨rfl, Below.refl _ _⟩
end Go.Proofs.Qxb6600573a.fnMinBodyLengthByteOrderUnambiguous
