/- coprimes: the walk. -/
import Derived.Test.Qxb6605344aRows
import Derived.Test.Qxb6605344aPlain
import Derived.WalkKit
import Derived.ProofKit
import Derived.OpenShut
import Derived.WalkSpells
import Derived.WalkLawsBesides
import Derived.Deep.QuietTactic
import Derived.BigQuiet
import Derived.Below
import Derived.Laws.OwnMore
import Derived.Laws.IdiomStrings
namespace Go.Proofs.Qxb6605344a
open Go.ChangeShapes Go.WideShapes Go.ChangeAt Go.RowKit
open Plain

theorem info3 : (Try.prog.info? 3).map (fun i => (i.zero, i.size, i.bytes)) = some (some (.int .i64 0), 1, 8) := by kernel_rfl

/-- the list as cells -/
def ints (l : List Nat) : List Value := l.map (fun k : Nat => Value.int .i64 (k : Int))

theorem cop_zero (n : Int) (w : World) (hn : n ≤ 0) : Calls Try.prog 9 #[.int .i64 n] w fun e w' => e = .returned (.slice none 0 0) ∧ w' = w := by
  have d : decide (1 ≤ n) = false := by simp; omega
  go_enter Try.func9, Try.ntmps9
  go_wp2
  refine wp_loop_rounds 1 ?_
  rw [rounds_succ]
  go_wp2
  go_ret
  exact ⟨rfl, rfl⟩

theorem ints_len (l : List Nat) : (ints l).length = l.length := by simp [ints]

theorem new_cell (w : World) (q : Nat) (v : Value) (t : TypeId) : ((w.drewN q).alloc (.cells #[v] t)).cell? ⟨w.heap.size, 0, none⟩ = some v := World.cell?_alloc_mark (w.drewN q) #[v] t (0, 0) 0

/-- behind the append -/
theorem rel_keep {n j q : Nat} {w wo w1 : World} {u v' : Value} {o : Obj} (hg : Nat.gcd (j + 1) n = 1) (hb : Below w.heap.size w wo)
    (hown : wo.ownsRow w.heap.size 3 1 u (copTo n j).length (ints (copTo n j)))
    (hown' : w1.ownsRow w.heap.size 3 1 v' ((copTo n j).length + 1) (ints (copTo n j) ++ [.int .i64 ((j + 1 : Nat) : Int)])) (hgrow : ((wo.drewN q).alloc o).grownBy w1 u.ownBlock) :
    w1.ownsRow w.heap.size 3 1 v' (copTo n (j + 1)).length (ints (copTo n (j + 1))) ∧ Below w.heap.size w w1 := by
  have e : copTo n (j + 1) = copTo n j ++ [j + 1] := by rw [copTo_succ, if_pos hg]
  refine ⟨?_, ?_⟩
  · rw [e]
    have e2 : ints (copTo n j ++ [j + 1]) = ints (copTo n j) ++ [.int .i64 ((j + 1 : Nat) : Int)] := by simp [ints]
    rw [e2, List.length_append]
    exact hown'
  · exact ((below_drewN hb q).alloc hb.size o).grown hgrow (by have := hb.size; simp; omega) (fun k hk => (hown.lt k hk).1)

theorem rel_drop {n j : Nat} (hg : Nat.gcd (j + 1) n ≠ 1) : copTo n (j + 1) = copTo n j := by
  rw [copTo_succ, if_neg hg, List.append_nil]

set_option maxHeartbeats 1000000 in
theorem cop_pos (n : Nat) (w : World) (h1 : 1 ≤ n) (hn : n ≤ 65536) : Calls Try.prog 9 #[.int .i64 n] w fun e w' =>
    ∃ v, e = .returned v ∧ w'.ownsRow w.heap.size 3 1 v (cop n).length (ints (cop n)) ∧ Below w.heap.size w w' := by
  obtain ⟨i0, hi, hz0, hz1, hz2⟩ := info_parts info3
  go_enter Try.func9, Try.ntmps9
  go_wp2
  go_loopw [3, 4] (fun v k wr => ∃ j : Nat, j ≤ n ∧ k = .int .i64 ((j + 1 : Nat) : Int) ∧ wr.ownsRow w.heap.size 3 1 v (copTo n j).length (ints (copTo n j)) ∧ Below w.heap.size w wr) (fun _ k _ => n + 1 - (intOf k).toNat)
  case atStart => exact ⟨0, Nat.zero_le _, rfl, World.ownsRow_nil _ _ _ _, Below.refl _ _⟩
  case round =>
    obtain ⟨j, hj, rfl, hown, hb⟩ := hrel
    by_cases c : j < n
    · have HO : Hid (wr.ownsRow w.heap.size 3 1 u3 (copTo n j).length (ints (copTo n j))) := hown
      clear hown
      have d : decide ((j : Int) + 1 ≤ (n : Int)) = true := by simp; omega
      obtain ⟨wo, rfl⟩ : ∃ wo : World, wo = wr := ⟨_, rfl⟩
      go_wp2
      go_loopw [5, 6] (fun a b wq => ∃ x y q : Nat, a = .int .i64 x ∧ b = .int .i64 y ∧ Nat.gcd x y = Nat.gcd (j + 1) n ∧ wq = wo.drewN q) (fun _ b _ => (intOf b).toNat)
      case atStart => exact ⟨j + 1, n, 0, rfl, rfl, rfl, rfl⟩
      case round =>
        obtain ⟨x, y, q, rfl, rfl, hg, rfl⟩ := hrel
        have HG : Hid (Nat.gcd x y = Nat.gcd (j + 1) n) := hg
        clear hg
        by_cases cy : y = 0
        · subst cy
          have hx : x = Nat.gcd (j + 1) n := by have := HG.out; simpa using this
          by_cases cx : x = 1
          · have ex : ((x : Int) == 1) = true := by rw [cx]; rfl
            have HX : Hid (Nat.gcd (j + 1) n = 1) := by rw [← hx]; exact cx
            clear cx hx
            have hl := copTo_len n j
            go_wp2_with (at_builtin; refine wpList_append_own _ rfl _ _ 22 rfl w.heap.size 3 i0 (.int .i64 0) 1 8 Try.underlying22 hi hz0 hz1 hz2 rfl (by decide) _ _ _ rfl (World.ownsRow.alloc (w := wo.drewN q) HO.out _) ⟨wo.heap.size, 0, none⟩ 1 1 [.int .i64 ((j + 1 : Nat) : Int)] rfl rfl ?c1 ?c2 ?c3 ?c4 ?c5 ?_)
            case c1 =>
              intro t u hu
              match t, hu with
              | 0, hu => simp at hu; subst hu; exact new_cell wo q _ 3
            case c2 => intro u hu; simp at hu; subst hu; rfl
            case c3 => unfold maxLen; omega
            case c4 => omega
            case c5 => have := hb.size; simp; omega
            intro v' w1 hown' hgrow _
            have R := rel_keep HX.out hb HO.out hown' hgrow
            clear hown' hgrow
            go_wp2
            go_roundw
            case rel => exact ⟨j + 1, by omega, by go_num, R.1, R.2⟩
            case measure => simp [intOf]; omega
          · have ex : ((x : Int) == 1) = false := beq_eq_false_iff_ne.2 (by omega)
            have HX : Hid (Nat.gcd (j + 1) n ≠ 1) := by rw [← hx]; exact cx
            clear cx hx
            go_wp2
            go_roundw
            case rel => exact ⟨j + 1, by omega, by go_num, by rw [rel_drop HX.out]; exact HO.out, below_drewN hb _⟩
            case measure => simp [intOf]; omega
        · have ey : ((y : Int) != 0) = true := by rw [bne_iff_ne]; omega
          have hy : 1 ≤ (y : Int) := by omega
          go_wp2
          go_quiet (fail)
          go_wp2
          go_roundw
          case rel =>
            refine ⟨y, x % y, _, rfl, by go_num, ?_, by first | rfl | exact World.drewN_drewN ..⟩
            rw [← HG.out, Nat.gcd_comm x y, Nat.gcd_rec y x, Nat.gcd_comm]
          case measure =>
            have := Nat.mod_lt x (show y > 0 by omega)
            simp [intOf]; omega
    · obtain rfl : j = n := by omega
      have d : decide ((j : Int) + 1 ≤ (j : Int)) = false := by simp; omega
      go_wp2
      go_ret
      exact ⟨_, rfl, hown, hb⟩
end Go.Proofs.Qxb6605344a
namespace Go.Proofs.Qxb6605344a
open Go.ChangeShapes Go.WideShapes Go.ChangeAt Go.RowKit
open Plain

theorem zz_zero (n : Int) (w : World) (hn : n ≤ 0) : Calls Try.prog 6 #[.int .i64 n] w fun e w' => e = .returned (.slice none 0 0) ∧ w' = w := by
  go_enter Try.func6, Try.ntmps6
  go_wp2_with fail
  refine (cop_zero n _ hn).mono ?_
  rintro e w1 ⟨rfl, rfl⟩
  go_wp2_with fail
  go_ret
  exact ⟨rfl, rfl⟩

/-- the list lies in new memory, at block g -/
def ListAt (w : World) (g : Nat) (l : List Nat) : Prop := ∀ t (h : t < l.length), w.cell? ⟨g, t, none⟩ = some (.int .i64 (l[t] : Int))

theorem zz_row (n : Nat) (w : World) (h1 : 1 ≤ n) (hn : n ≤ 65536) : Calls Try.prog 6 #[.int .i64 n] w fun e w' =>
    ∃ v, e = .returned v ∧ w'.ownsRow w.heap.size 3 1 v (cop n).length (ints (cop n)) ∧ Below w.heap.size w w' := by
  go_enter Try.func6, Try.ntmps6
  go_wp2_with fail
  refine (cop_pos n _ h1 hn).mono ?_
  rintro e w1 ⟨v, rfl, h2, h3⟩
  have H2 : Hid (w1.ownsRow w.heap.size 3 1 v (cop n).length (ints (cop n))) := h2
  clear h2
  go_wp2_with fail
  go_ret
  exact ⟨v, rfl, H2.out, h3⟩

theorem zz_pos (n : Nat) (w : World) (h1 : 1 ≤ n) (hn : n ≤ 65536) : Calls Try.prog 6 #[.int .i64 n] w fun e w' =>
    ∃ g cap, e = .returned (.slice (some ⟨g, 0, none⟩) (cop n).length cap) ∧ w.heap.size ≤ g ∧ g < w'.heap.size ∧ ListAt w' g (cop n) ∧ Below w.heap.size w w' := by
  refine (zz_row n w h1 hn).mono ?_
  rintro e w1 ⟨v, rfl, h2, h3⟩
  have hp := (cop_head n h1).1
  rcases h2.2 with ⟨_, h⟩ | ⟨g, cap, cur, hv, hg, hh, _⟩
  · omega
  · subst hv
    refine ⟨g, cap, rfl, hg, (h2.lt g rfl).2, ?_, h3⟩
    intro t ht
    rw [h2.cellAt t (by omega)]
    unfold ints
    rw [List.getElem?_map, List.getElem?_eq_getElem ht]
    rfl
end Go.Proofs.Qxb6605344a
