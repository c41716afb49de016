/- strikeMultiples: the walk. -/
import Derived.Test.Qxb6605344aSieve
import Derived.Test.Qxb6605344aCop
namespace Go.Proofs.Qxb6605344a
open Go.ChangeShapes Go.WideShapes Go.ChangeAt Go.RowKit
open Plain

def bools (S : List Bool) : List Value := S.map Value.bool
/-- the sieve's row, at block g -/
abbrev Row (w : World) (g n : Nat) (S : List Bool) : Prop := w.ownsRow g 4 1 (.slice (some ⟨g, 0, none⟩) (n + 1) (n + 1)) (n + 1) (bools S)

theorem row_cell {w : World} {g n : Nat} {S : List Bool} (h : Row w g n S) (hl : S.length = n + 1) (k : Nat) (hk : k < S.length) : w.cell? ⟨g, k, none⟩ = some (.bool S[k]) := by
  rw [h.cellAt k (by omega)]
  unfold bools
  rw [List.getElem?_map, List.getElem?_eq_getElem hk]
  rfl

theorem row_store {w : World} {g n p Q : Nat} {S : List Bool} (h : Row w g n (struckTo S p Q)) (hp : 1 ≤ p) (hQ : 1 ≤ Q) (hd : p ∣ Q) : Row (w.setCell ⟨g, Q, none⟩ (.bool true)) g n (struckTo S p (Q + p)) := by
  have := (h.stored Q (.bool true)).1
  rw [← struckTo_step S p Q hp hQ hd]
  have e : bools ((struckTo S p Q).set Q true) = (bools (struckTo S p Q)).set Q (.bool true) := by
    unfold bools; rw [List.map_set]
  show World.ownsRow _ g 4 1 _ (n + 1) (bools ((struckTo S p Q).set Q true))
  rw [e]
  exact this

set_option maxHeartbeats 1000000 in
theorem strike_any (g n p : Nat) (S : List Bool) (w : World) (hp : 2 ≤ p) (hpn : p ≤ n) (hn : n ≤ 65536) (hl : S.length = n + 1) (hown : Row w g n S) :
    Calls Try.prog 7 #[.slice (some ⟨g, 0, none⟩) (n + 1) (n + 1), .int .i64 p, .int .i64 n] w fun e w' => e = .returned (.tuple #[]) ∧ ∃ Q, n < Q ∧ Row w' g n (struckTo S p Q) ∧ Below g w w' := by
  have HO : Hid (Row w g n S) := hown
  clear hown
  go_enter Try.func7, Try.ntmps7
  go_wp2
  go_loopw [6] (fun q wr => ∃ Q : Nat, q = .int .i64 Q ∧ p ∣ Q ∧ 1 ≤ Q ∧ Q ≤ n + p ∧ Row wr g n (struckTo S p Q) ∧ Below g w wr) (fun q _ => n + p + 1 - (intOf q).toNat)
  case atStart => exact ⟨p, rfl, Nat.dvd_refl p, by omega, by omega, by rw [struckTo_start]; exact HO.out, Below.refl _ _⟩
  case round =>
    obtain ⟨Q, rfl, hd, h1, h2, hrow, hb⟩ := hrel
    have HD : Hid (p ∣ Q) := hd
    have HR : Hid (Row wr g n (struckTo S p Q)) := hrow
    clear hd hrow
    by_cases c : Q ≤ n
    · have dc : decide ((Q : Int) ≤ (n : Int)) = true := by simp; omega
      have hcell := row_cell HR.out (by rw [struckTo_len]; exact hl) Q (by rw [struckTo_len]; omega)
      obtain ⟨u, hcell⟩ : ∃ u, wr.cell? ⟨g, Q, none⟩ = some (.bool u) := ⟨_, hcell⟩
      have hfz : wr.frozen? ⟨g, Q, none⟩ = false := HR.out.frozenAt Q
      have hix : (Q : Int) < (n : Int) + 1 := by omega
      go_wp2
      go_roundw
      case rel => exact ⟨Q + p, by go_num, Nat.dvd_add HD.out (Nat.dvd_refl p), by omega, by omega, row_store HR.out (by omega) h1 HD.out, hb.setCell (Nat.le_refl _) _⟩
      case measure => simp [intOf]; omega
    · have dc : decide ((Q : Int) ≤ (n : Int)) = false := by simp; omega
      go_wp2
      go_end0
      exact ⟨rfl, Q, by omega, HR.out, hb⟩
end Go.Proofs.Qxb6605344a
