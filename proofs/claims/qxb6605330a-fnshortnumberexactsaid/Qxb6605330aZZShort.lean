import Derived.Test.Qxb6605330aShort
namespace Go.Proofs.Qxb6605330a
open Go.ChangeShapes Go.WideShapes Go.ChangeAt Go.RowKit
open Plain

/-- what ZZShortNumber and modelShortNumber come to -/
def ZZPost (s : ByteArray) (i : Nat) (st : Int) (signed : Bool) (w : World) (e : Ending) (w' : World) : Prop :=
  ∃ n ok np, e = .returned (.tuple #[.int .i64 n, .bool ok, .int .i64 np]) ∧ Below w.heap.size w w' ∧ SN s i st signed n ok np
theorem ZZPost.mk {s : ByteArray} {i : Nat} {st : Int} {signed : Bool} {w : World} {e : Ending} {w' : World} (n : Int) (ok : Bool) (np : Int)
    (h1 : e = .returned (.tuple #[.int .i64 n, .bool ok, .int .i64 np])) (h3 : Below w.heap.size w w') (h4 : SN s i st signed n ok np) : ZZPost s i st signed w e w' := ⟨n, ok, np, h1, h3, h4⟩

set_option maxHeartbeats 400000 in
theorem zzshort_any (s : ByteArray) (i : Nat) (bl : Bool) (st : Int) (signed : Bool) (w : World) (hs : s.size ≤ 1099511627776) (hst : ¬ (48 ≤ st ∧ st ≤ 57)) :
    Calls Try.prog 10 #[.string s, .int .i64 i, .bool bl, .int .u8 st, .bool signed] w fun e w' => ZZPost s i st signed w e w' := by
  have HST : Hid _ := hst
  clear hst
  go_enter Try.func10, Try.ntmps10
  go_wp2_with fail
  refine (short_any w.heap.size s i st signed _ hs (by simp) (by simp) (by simp) HST.out).mono ?_
  rintro e w1 ⟨n, ok, np, rfl, h1, hb, hsn⟩
  have hb' : Below w.heap.size w w1 := ((Below.refl _ _).alloc (Nat.le_refl _) _).trans hb
  have HS : Hid _ := hsn
  clear hb hsn
  go_wp2
  go_quiet (fail)
  go_wp2
  go_ret3
  exact ZZPost.mk n ok np rfl (below_drewN hb' _) HS.out
end Go.Proofs.Qxb6605330a
