import Derived.Test.Qxb6605330aRows
import Derived.Test.Qxb6605330aPlain
import Derived.WalkKit
import Derived.ProofKit
import Derived.OpenShut
import Derived.ShutString
import Derived.WalkSpells
import Derived.WalkLawsBesides
import Derived.Deep.QuietTactic
import Derived.BigQuiet
import Derived.Below
namespace Go.Proofs.Qxb6605330a
open Go.ChangeShapes Go.WideShapes Go.ChangeAt Go.RowKit
open Plain

/-- a store into the decoder's second field -/
theorem dec_step {w wr : World} {b : Nat} {s : ByteArray} {x : Int} (h0 : wr.cell? ⟨b, 0, none⟩ = some (.string s)) (h1 : wr.cell? ⟨b, 1, none⟩ = some (.int .i64 x)) (h2 : wr.frozen? ⟨b, 1, none⟩ = false) (hb : Below b w wr) (n : Nat) (y : Int) :
    ((wr.drewN n).setCell ⟨b, 1, none⟩ (.int .i64 y)).cell? ⟨b, 0, none⟩ = some (.string s) ∧ ((wr.drewN n).setCell ⟨b, 1, none⟩ (.int .i64 y)).cell? ⟨b, 1, none⟩ = some (.int .i64 y) ∧
    ((wr.drewN n).setCell ⟨b, 1, none⟩ (.int .i64 y)).frozen? ⟨b, 1, none⟩ = false ∧ Below b w ((wr.drewN n).setCell ⟨b, 1, none⟩ (.int .i64 y)) := by
  refine ⟨?_, ?_, ?_, ?_⟩
  · rw [World.cell?_setCell_other _ _ _ _ (by simp)]; exact h0
  · exact World.cell?_setCell_same _ _ _ (u := .int .i64 x) h1
  · rw [World.frozen?_setCell]; exact h2
  · exact (below_drewN hb n).setCell (Nat.le_refl _) _

set_option maxHeartbeats 400000 in
theorem skip_any (b : Nat) (s : ByteArray) (i j : Nat) (w : World) (hs : s.size ≤ 1099511627776)
    (hc0 : w.cell? ⟨b, 0, none⟩ = some (.string s)) (hc1 : w.cell? ⟨b, 1, none⟩ = some (.int .i64 i)) (hf : w.frozen? ⟨b, 1, none⟩ = false)
    (hij : i ≤ j) (hj : j < s.size) (hd : ∀ p (h : p < s.size), i ≤ p → p < j → 48 ≤ s[p].toNat ∧ s[p].toNat ≤ 57) (hcol : s[j].toNat = 58)
    (hv : j + 1 + val (seg s i (j - i)) ≤ s.size) :
    Calls Try.prog 24 #[.pointer (some ⟨b, 0, none⟩)] w fun e w' => e = .returned (.string (s.extract (j + 1) (j + 1 + val (seg s i (j - i))))) ∧ w'.cell? ⟨b, 1, none⟩ = some (.int .i64 ((j + 1 + val (seg s i (j - i)) : Nat) : Int)) ∧ Below b w w' := by
  go_enter Try.func24, Try.ntmps24
  go_wp2
  go_loopw [3] (fun n wr => ∃ p : Nat, i ≤ p ∧ p ≤ j ∧ n = .int .i64 (val (seg s i (p - i))) ∧ wr.cell? ⟨b, 0, none⟩ = some (.string s) ∧ wr.cell? ⟨b, 1, none⟩ = some (.int .i64 p) ∧ wr.frozen? ⟨b, 1, none⟩ = false ∧ Below b w wr)
    (fun _ wr => j - (intOf ((wr.cell? ⟨b, 1, none⟩).getD (.int .i64 0))).toNat)
  case atStart => exact ⟨i, Nat.le_refl _, hij, by simp [seg_zero, val_nil], hc0, hc1, hf, Below.refl _ _⟩
  case round =>
    obtain ⟨p, hip, hpj, rfl, h0, h1, h2, hb⟩ := hrel
    by_cases hlt : p < j
    · have hix : (p : Int) < (s.size : Int) := by omega
      have hpn : p < s.size := by omega
      have H1 : Hid (val (seg s i (p + 1 - i)) = 10 * val (seg s i (p - i)) + (s[p].toNat - 48)) := val_seg_step s i p hip hpn
      have m1 := val_seg_le s i p j hpj
      have m2 : (val (seg s i (p - i)) : Int) ≤ 1099511627776 := by omega
      clear m1
      have d1 : (48 : Int) ≤ (s[p].toNat : Int) := by have := (hd p hpn hip hlt).1; omega
      have d2 : (s[p].toNat : Int) ≤ 57 := by have := (hd p hpn hip hlt).2; omega
      clear hcol hc0 hc1 hf
      have HD : Hid _ := hd
      clear hd
      go_wp2
      go_quiet (fail)
      obtain ⟨nq_1, hq1⟩ : ∃ q, q = nq := ⟨_, rfl⟩
      subst hq1
      go_wp2
      go_quiet (fail)
      go_wp2
      have S := dec_step h0 h1 h2 hb (nq_1 + nq) ((p : Int) + 1)
      go_roundw
      case rel => exact ⟨p + 1, by omega, by omega, by rw [H1.out]; go_num, S.1, by rw [S.2.1]; go_num, S.2.2.1, S.2.2.2⟩
      case measure => rw [S.2.1, h1]; simp [intOf]; omega
    · obtain rfl : p = j := by omega
      have c1 : ((s[p].toNat : Int) != 58) = false := by rw [hcol]; rfl
      have hix : (p : Int) < (s.size : Int) := by omega
      have hv' : (p : Int) + 1 + (val (seg s i (p - i)) : Int) ≤ s.size := by omega
      clear hcol hc0 hc1 hf hd
      go_wp2
      go_quiet (fail)
      obtain ⟨nq_1, hq1⟩ : ∃ q, q = nq := ⟨_, rfl⟩
      subst hq1
      go_wp2
      go_quiet (fail)
      go_wp2
      have S := dec_step h0 h1 h2 hb nq_1 ((p : Int) + 1)
      have S2 := dec_step S.1 S.2.1 S.2.2.1 S.2.2.2 nq ((p : Int) + 1 + (val (seg s i (p - i)) : Int))
      go_ret
      exact ⟨rfl, S2.2.1, S2.2.2.2⟩

set_option maxHeartbeats 400000 in
theorem zzskip_any (s : ByteArray) (i j : Nat) (bl : Bool) (w : World) (hs : s.size ≤ 1099511627776)
    (hij : i ≤ j) (hj : j < s.size) (hd : ∀ p (h : p < s.size), i ≤ p → p < j → 48 ≤ s[p].toNat ∧ s[p].toNat ≤ 57) (hcol : s[j].toNat = 58)
    (hv : j + 1 + val (seg s i (j - i)) ≤ s.size) :
    Calls Try.prog 16 #[.string s, .int .i64 i, .bool bl] w fun e w' =>
      e = .returned (.tuple #[.string (s.extract (j + 1) (j + 1 + val (seg s i (j - i)))), .int .i64 ((j + 1 + val (seg s i (j - i)) : Nat) : Int)]) ∧ Below w.heap.size w w' := by
  have HD : Hid _ := hd
  clear hd
  have HC : Hid _ := hcol
  clear hcol
  go_enter Try.func16, Try.ntmps16
  go_wp2_with fail
  refine (skip_any w.heap.size s i j _ hs (by simp) (by simp) (by simp) hij hj HD.out HC.out hv).mono ?_
  rintro e w1 ⟨rfl, h1, hb⟩
  have hb' : Below w.heap.size w w1 := ((Below.refl _ _).alloc (Nat.le_refl _) _).trans hb
  clear hb
  go_wp2
  go_quiet (fail)
  go_wp2
  go_ret2
  exact ⟨rfl, below_drewN hb' _⟩
end Go.Proofs.Qxb6605330a
