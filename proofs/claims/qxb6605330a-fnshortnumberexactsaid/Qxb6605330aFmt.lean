import Derived.Test.Qxb6605330aRows
import Derived.Test.Qxb6605330aPlain
import Derived.WalkKit
import Derived.ProofKit
import Derived.OpenShut
import Derived.ShutString
import Derived.WalkSpells
import Derived.WalkLawsBesides
import Derived.Below
import Derived.Laws.IdiomStrings
namespace Go.Proofs.Qxb6605330a
open Go.ChangeShapes Go.WideShapes Go.ChangeAt Go.RowKit
open Plain

/-- the last bytes of the buffer at block B, from p on, are l -/
structure Buf (B p : Nat) (l : List UInt8) (w wr : World) : Prop where
  bytes : ∀ t (h : t < l.length), wr.cell? ⟨B, p + t, none⟩ = some (.int .u8 (l[t].toNat : Int))
  room : ∀ o, o < 24 → ∃ u, wr.cell? ⟨B, o, none⟩ = some u
  free : ∀ o, wr.frozen? ⟨B, o, none⟩ = false
  below : Below B w wr

theorem Buf.push {B p : Nat} {l : List UInt8} {w wr : World} (h : Buf B (p + 1) l w wr) (hp : p < 24) (c : UInt8) {x : Int} (hx : x = (c.toNat : Int)) : Buf B p (c :: l) w (wr.setCell ⟨B, p, none⟩ (.int .u8 x)) := by
  subst hx
  obtain ⟨u, hu⟩ := h.room p hp
  refine ⟨?_, ?_, ?_, h.below.setCell (Nat.le_refl _) _⟩
  · intro t ht
    cases t with
    | zero => exact World.cell?_setCell_same _ _ _ hu
    | succ t =>
      rw [World.cell?_setCell_other _ _ _ _ (by simp)]
      have := h.bytes t (by simpa using ht)
      have e : p + (t + 1) = p + 1 + t := by omega
      rw [e]; exact this
  · intro o ho
    by_cases e : o = p
    · subst e; exact ⟨_, World.cell?_setCell_same _ _ _ hu⟩
    · rw [World.cell?_setCell_other _ _ _ _ (by simp only [ne_eq, Addr.mk.injEq, true_and, and_true]; exact fun h => e h.symm)]; exact h.room o ho
  · intro o; rw [World.frozen?_setCell]; exact h.free o

theorem Buf.start (w : World) (cs : Array Value) (hc : cs.size = 24) (t : TypeId) : Buf w.heap.size 24 [] w (w.alloc (.cells cs t)) := by
  refine ⟨?_, ?_, ?_, (Below.refl _ _).alloc (Nat.le_refl _) _⟩
  · intro t h; simp at h
  · intro o ho
    rw [World.cell?_alloc_mark]
    exact ⟨cs[o], Array.getElem?_eq_getElem (by omega)⟩
  · intro o; rw [World.frozen?_alloc_mark]; simp

theorem add_cell {w : World} {B p j : Nat} {v : Value} (h : w.cell? ⟨B, p + j, none⟩ = some v) : w.cell? ((⟨B, p, none⟩ : Addr).add j) = some v := by
  cases j with
  | zero => simpa [Addr.add] using h
  | succ j => simpa [Addr.add] using h

set_option maxHeartbeats 400000 in
theorem fmt_pos (v : Int) (w : World) (h0 : 1 ≤ v) (h1 : v < 1000000000000000000) :
    Calls Try.prog 13 #[.int .i64 v] w fun e w' => ∃ l : List UInt8, e = .returned (.string ⟨l.toArray⟩) ∧ Canon l v.natAbs ∧ Below w.heap.size w w' := by
  have e0 : (v == 0) = false := beq_eq_false_iff_ne.2 (by omega)
  have d0 : decide (v < 0) = false := by simp; omega
  have HL : Hid (v.natAbs < 10 ^ 18) := by show _ < _; omega
  have HP : Hid (0 < v.natAbs) := by show _ < _; omega
  go_enter Try.func13, Try.ntmps13
  go_wp2
  go_loopw [0, 5] (fun v' i wr => ∃ (m p : Nat) (l : List UInt8), p + l.length = 24 ∧ v' = .int .i64 m ∧ i = .int .i64 p ∧ FmtInv v.natAbs m l ∧ Buf w.heap.size p l w wr) (fun v _ _ => (intOf v).toNat)
  case atStart => exact ⟨v.natAbs, 24, [], rfl, by go_num, rfl, FmtInv.start _, Buf.start _ _ rfl _⟩
  case round =>
    obtain ⟨m, p, l, hpl, rfl, rfl, hinv, hbuf⟩ := hrel
    clear h0 h1
    by_cases hm : 0 < m
    · have hl := hinv.len hm HL.out
      obtain ⟨q, rfl⟩ : ∃ q, p = q + 1 := ⟨p - 1, by omega⟩
      have hq1 : 6 ≤ (q : Int) := by omega
      have hq2 : (q : Int) < 24 := by omega
      have hm1 : 1 ≤ (m : Int) := by omega
      have hm2 : (m : Int) < 1000000000000000000 := by
        have h1 := hinv.sum
        have h2 : 1 ≤ 10 ^ l.length := Nat.pos_of_ne_zero (by simp)
        have h3 : m * 1 ≤ m * 10 ^ l.length := Nat.mul_le_mul_left _ h2
        have h4 : m < 10 ^ 18 := by have := HL.out; omega
        omega
      obtain ⟨u, hu⟩ := hbuf.room q (by omega)
      have hfr := hbuf.free q
      have HB : Hid _ := hbuf
      clear hbuf
      have HI : Hid _ := hinv
      clear hinv
      go_wp2
      go_roundw
      case rel =>
        exact ⟨m / 10, q, UInt8.ofNat (48 + m % 10) :: l, by simp; omega, by go_num, rfl, HI.out.step hm, HB.out.push (by omega) _ (by rw [dig_toNat]; omega)⟩
      case measure => simp [intOf]; omega
    · obtain rfl : m = 0 := by omega
      have hcan := hinv.done HP.out
      have hlen : 0 < l.length := List.length_pos_iff.2 hcan.1
      have hq2 : (p : Int) ≤ 24 := by omega
      have hq3 : ¬ 24 = p := by omega
      have hconv : (convert 29 9 (.slice (some ⟨w.heap.size, p, none⟩) (24 - p) (24 - p))).run Try.prog wr = .ok (.string ⟨l.toArray⟩) wr := by
        rw [show 24 - p = l.length by omega]
        exact run_convert_bytes_back wr 29 9 5 ⟨w.heap.size, p, none⟩ l.length l Try.underlying29 Try.underlying5 Try.underlying9 (fun j hj => add_cell (hbuf.bytes j hj))
      have HB : Hid _ := hbuf
      clear hbuf
      have HC : Hid _ := hcan
      clear hinv hcan
      go_wp2
      go_ret
      exact ⟨l, rfl, HC.out, HB.out.below⟩

set_option maxHeartbeats 400000 in
theorem fmt_neg (v : Int) (w : World) (h0 : v ≤ -1) (h1 : -1000000000000000000 < v) :
    Calls Try.prog 13 #[.int .i64 v] w fun e w' => ∃ l : List UInt8, e = .returned (.string ⟨(45 :: l).toArray⟩) ∧ Canon l v.natAbs ∧ Below w.heap.size w w' := by
  have e0 : (v == 0) = false := beq_eq_false_iff_ne.2 (by omega)
  have d0 : decide (v < 0) = true := by simp; omega
  have HL : Hid (v.natAbs < 10 ^ 18) := by show _ < _; omega
  have HP : Hid (0 < v.natAbs) := by show _ < _; omega
  go_enter Try.func13, Try.ntmps13
  go_wp2
  go_loopw [0, 5] (fun v' i wr => ∃ (m p : Nat) (l : List UInt8), p + l.length = 24 ∧ v' = .int .i64 m ∧ i = .int .i64 p ∧ FmtInv v.natAbs m l ∧ Buf w.heap.size p l w wr) (fun v _ _ => (intOf v).toNat)
  case atStart => exact ⟨v.natAbs, 24, [], rfl, by go_num, rfl, FmtInv.start _, Buf.start _ _ rfl _⟩
  case round =>
    obtain ⟨m, p, l, hpl, rfl, rfl, hinv, hbuf⟩ := hrel
    clear h0 h1
    by_cases hm : 0 < m
    · have hl := hinv.len hm HL.out
      obtain ⟨q, rfl⟩ : ∃ q, p = q + 1 := ⟨p - 1, by omega⟩
      have hq1 : 6 ≤ (q : Int) := by omega
      have hq2 : (q : Int) < 24 := by omega
      have hm1 : 1 ≤ (m : Int) := by omega
      have hm2 : (m : Int) < 1000000000000000000 := by
        have h1 := hinv.sum
        have h2 : 1 ≤ 10 ^ l.length := Nat.pos_of_ne_zero (by simp)
        have h3 : m * 1 ≤ m * 10 ^ l.length := Nat.mul_le_mul_left _ h2
        have h4 : m < 10 ^ 18 := by have := HL.out; omega
        omega
      obtain ⟨u, hu⟩ := hbuf.room q (by omega)
      have hfr := hbuf.free q
      have HB : Hid _ := hbuf
      clear hbuf
      have HI : Hid _ := hinv
      clear hinv
      go_wp2
      go_roundw
      case rel =>
        exact ⟨m / 10, q, UInt8.ofNat (48 + m % 10) :: l, by simp; omega, by go_num, rfl, HI.out.step hm, HB.out.push (by omega) _ (by rw [dig_toNat]; omega)⟩
      case measure => simp [intOf]; omega
    · obtain rfl : m = 0 := by omega
      have hcan := hinv.done HP.out
      have hlen : l.length ≤ 18 := canon_len hcan HL.out
      obtain ⟨q, rfl⟩ : ∃ q, p = q + 1 := ⟨p - 1, by omega⟩
      have hlp : 0 < l.length := List.length_pos_iff.2 hcan.1
      have hq1 : 2 ≤ (q : Int) := by omega
      have hq2 : (q : Int) ≤ 24 := by omega
      have hq4 : (q : Int) < 24 := by omega
      have hq3 : ¬ 24 = q := by omega
      obtain ⟨u, hu⟩ := hbuf.room q (by omega)
      have hfr := hbuf.free q
      have hb2 := hbuf.push (p := q) (by omega) 45 (x := 45) rfl
      have hconv : (convert 29 9 (.slice (some ⟨w.heap.size, q, none⟩) (24 - q) (24 - q))).run Try.prog (wr.setCell ⟨w.heap.size, q, none⟩ (.int .u8 45)) = .ok (.string ⟨(45 :: l).toArray⟩) (wr.setCell ⟨w.heap.size, q, none⟩ (.int .u8 45)) := by
        rw [show 24 - q = (45 :: l).length by simp; omega]
        exact run_convert_bytes_back (wr.setCell ⟨w.heap.size, q, none⟩ (.int .u8 45)) 29 9 5 ⟨w.heap.size, q, none⟩ (45 :: l).length (45 :: l) Try.underlying29 Try.underlying5 Try.underlying9 (fun j hj => add_cell (hb2.bytes j hj))
      have HB : Hid _ := hb2
      clear hbuf hb2
      have HC : Hid _ := hcan
      clear hinv hcan
      go_wp2
      go_ret
      exact ⟨l, rfl, HC.out, HB.out.below⟩

theorem fmt_zero (w : World) : Calls Try.prog 13 #[.int .i64 0] w fun e w' => e = .returned (.string ⟨#[48]⟩) ∧ w' = w := by
  go_enter Try.func13, Try.ntmps13
  go_wp2
  go_ret
  exact ⟨rfl, rfl⟩

/-- fmtInt writes the canonical decimal -/
theorem fmt_any (v : Int) (w : World) (h0 : -1000000000000000000 < v) (h1 : v < 1000000000000000000) :
    Calls Try.prog 13 #[.int .i64 v] w fun e w' => ∃ l : List UInt8, e = .returned (.string ⟨(fmtOf v l).toArray⟩) ∧ Canon l v.natAbs ∧ Below w.heap.size w w' := by
  by_cases hn : v < 0
  · refine (fmt_neg v w (by omega) h0).mono ?_
    rintro e w' ⟨l, rfl, hc, hb⟩
    exact ⟨l, by rw [fmtOf, if_pos hn], hc, hb⟩
  · by_cases hz : v = 0
    · subst hz
      refine (fmt_zero w).mono ?_
      rintro e w' ⟨rfl, rfl⟩
      exact ⟨[48], rfl, canon_0, Below.refl _ _⟩
    · refine (fmt_pos v w (by omega) h1).mono ?_
      rintro e w' ⟨l, rfl, hc, hb⟩
      exact ⟨l, by rw [fmtOf, if_neg hn], hc, hb⟩
end Go.Proofs.Qxb6605330a
