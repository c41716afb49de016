/- The totient by the product formula; the symmetry: no Go in sight. -/
import Derived.Test.Qxb6605344aSieve
namespace Go.Proofs.Qxb6605344a.Plain

/-- how many of 1 .. n are coprime to R -/
def phi (n R : Nat) : Nat := cnt (fun j => Nat.gcd j R == 1) 1 n

theorem phi_one (n : Nat) : phi n 1 = n := cnt_all (fun j _ _ => by simp)
theorem phi_self (n : Nat) : phi n n = (cop n).length := rfl
theorem phi_le (n R : Nat) : phi n R ≤ n := cnt_le _ _ _

/-- the count up to a multiple of R -/
theorem phi_mul (R t : Nat) : phi (R * t) R = t * phi R R := cnt_period _ R t (fun j => by simp)

/-- one prime more -/
theorem phi_step (n R p : Nat) (hp : 2 ≤ p) (hpr : ∀ k, ¬ p ∣ k → Nat.gcd k p = 1) (hc : Nat.gcd p R = 1) (hd : R * p ∣ n) : phi n (R * p) = phi n R / p * (p - 1) ∧ p ∣ phi n R := by
  obtain ⟨t, rfl⟩ := hd
  -- the multiples of p among those coprime to R
  have e1 : cnt (fun k => decide (p ∣ k) && (Nat.gcd k R == 1)) 1 (R * p * t) = phi (R * t) R := by
    have e : R * p * t = p * (R * t) := by rw [Nat.mul_comm R p, Nat.mul_assoc]
    rw [e, cnt_mult _ p (R * t) (by omega)]
    apply cnt_congr
    intro j _ _
    rw [Nat.Coprime.gcd_mul_left_cancel j hc]
  have e2 : phi (R * p * t) R = p * phi (R * t) R := by
    have e : R * p * t = R * (p * t) := Nat.mul_assoc R p t
    rw [e, phi_mul, phi_mul, Nat.mul_assoc]
  have e3 : cnt (fun k => (Nat.gcd k R == 1) && !decide (p ∣ k)) 1 (R * p * t) = phi (R * p * t) (R * p) := by
    apply cnt_congr
    intro k _ _
    rw [Bool.eq_iff_iff]
    simp only [Bool.and_eq_true, beq_iff_eq, Bool.not_eq_true', decide_eq_false_iff_not]
    constructor
    · rintro ⟨h1, h2⟩
      exact Nat.Coprime.mul_right h1 (hpr k h2)
    · intro h
      refine ⟨Nat.Coprime.coprime_mul_right_right h, ?_⟩
      intro h2
      have h3 : Nat.gcd k p = 1 := Nat.Coprime.coprime_mul_left_right h
      have h4 := Nat.dvd_gcd h2 (Nat.dvd_refl p)
      rw [h3] at h4
      have := Nat.le_of_dvd (by omega) h4
      omega
  have e4 := cnt_part (fun k => Nat.gcd k R == 1) (fun k => decide (p ∣ k)) 1 (R * p * t)
  rw [e3, e1] at e4
  have e5 : phi (R * p * t) R = phi (R * p * t) (R * p) + phi (R * t) R := e4
  rw [e2] at e5 ⊢
  refine ⟨?_, Nat.dvd_mul_right _ _⟩
  rw [Nat.mul_div_cancel_left _ (by omega)]
  have e6 : phi (R * t) R * (p - 1) = p * phi (R * t) R - phi (R * t) R := by
    rw [Nat.mul_sub, Nat.mul_one, Nat.mul_comm]
  omega

/-- the totient's loop: R is the product of the primes so far -/
structure Tot (n m R : Nat) (x : Nat) (f : Nat) : Prop where
  dvd : R ∣ n
  apart : Nat.gcd R m = 1
  all : ∀ k, ¬ x ∣ k → Nat.gcd k R = 1 → Nat.gcd k m = 1 → Nat.gcd k n = 1
  val : f = phi n R

theorem Tot.start {n : Nat} : Tot n n 1 0 n := ⟨Nat.one_dvd n, Nat.gcd_one_left n, fun _ _ _ h => h, (phi_one n).symm⟩

theorem Tot.weak {n m R f : Nat} (h : Tot n m R 0 f) (x : Nat) : Tot n m R x f :=
  ⟨h.dvd, h.apart, fun k h1 h2 h3 => by
    by_cases hk : k = 0
    · subst hk; exact absurd (Nat.dvd_zero x) h1
    · exact h.all k (by rintro ⟨c, rfl⟩; simp at hk) h2 h3, h.val⟩

theorem Tot.cut {n m R p f : Nat} (h : Tot n m R p f) (fac : Fac n m p) (hp : p ∣ m) : Tot n (m / p) R p f := by
  obtain ⟨c, rfl⟩ := hp
  rw [Nat.mul_div_cancel_left c (by have := fac.two; omega)]
  refine ⟨h.dvd, Nat.Coprime.coprime_mul_left_right h.apart, ?_, h.val⟩
  intro k h1 h2 h3
  exact h.all k h1 h2 (Nat.Coprime.mul_right (fac.prime (Nat.dvd_mul_right p c) k h1) h3)

/-- the prime p has been divided out: p divides n, not m -/
theorem Tot.next {n m R p f : Nat} (h : Tot n m R p f) (hp : 2 ≤ p) (hpr : ∀ k, ¬ p ∣ k → Nat.gcd k p = 1) (hpn : p ∣ n) (hpR : Nat.gcd p R = 1) (hpm : ¬ p ∣ m) : Tot n m (R * p) 0 (f / p * (p - 1)) := by
  have hd : R * p ∣ n := Nat.Coprime.mul_dvd_of_dvd_of_dvd (Nat.Coprime.symm hpR) h.dvd hpn
  refine ⟨hd, ?_, ?_, ?_⟩
  · refine Nat.Coprime.mul_left h.apart ?_
    exact Nat.Coprime.symm (hpr m hpm)
  · intro k _ h2 h3
    refine h.all k ?_ (Nat.Coprime.coprime_mul_right_right h2) h3
    intro hd
    have h4 : Nat.gcd k p = 1 := Nat.Coprime.coprime_mul_left_right h2
    have h5 := Nat.dvd_gcd hd (Nat.dvd_refl p)
    rw [h4] at h5
    have := Nat.le_of_dvd (by omega) h5
    omega
  · rw [h.val, (phi_step n R p hp hpr hpR hd).1]

theorem Tot.bound {n m R x f : Nat} (h : Tot n m R x f) : f ≤ n := by rw [h.val]; exact phi_le _ _

/-- at the end the number is the totient -/
theorem Tot.done {n R f : Nat} (h : Tot n 1 R 0 f) : f = (cop n).length := by
  rw [h.val, cop_cnt, phi]
  apply cnt_congr
  intro j h1 _
  rw [Bool.eq_iff_iff]
  simp only [beq_iff_eq]
  constructor
  · intro hj
    exact h.all j (by rintro ⟨c, rfl⟩; simp at h1) hj (Nat.gcd_one_right j)
  · intro hj
    exact Nat.Coprime.coprime_dvd_right h.dvd hj

/-- the last prime -/
theorem Tot.last {n m R f : Nat} (h : Tot n m R 0 f) (fac : Fac n m m) : f / m * (m - 1) = (cop n).length := by
  have hm := fac.two
  have hprime := fac.prime (Nat.dvd_refl m)
  have h' : Tot n 1 (R * m) 0 (f / m * (m - 1)) := by
    have hw := h.weak m
    have hw1 : Tot n 1 R m f := by
      have := hw.cut fac (Nat.dvd_refl m)
      rw [Nat.div_self (by omega)] at this
      exact this
    refine hw1.next hm hprime fac.dvd (Nat.Coprime.symm h.apart) ?_
    intro hd
    have := Nat.le_of_dvd (by omega) hd
    omega
  exact h'.done
end Go.Proofs.Qxb6605344a.Plain
namespace Go.Proofs.Qxb6605344a.Plain
/-! ### order and symmetry -/
theorem cop_mem {n k : Nat} (h : k ∈ cop n) : 1 ≤ k ∧ k ≤ n ∧ Nat.gcd k n = 1 := by
  unfold cop copTo at h
  rw [List.mem_filter, List.mem_range'_1] at h
  obtain ⟨⟨h1, h2⟩, h3⟩ := h
  exact ⟨h1, by omega, by simpa using h3⟩
theorem cop_sorted (n : Nat) : (cop n).Pairwise (· < ·) := by
  unfold cop copTo
  exact List.Pairwise.filter _ List.pairwise_lt_range'
/-- the number ahead of place i -/
def before (l : List Nat) (i : Nat) : Nat := if i = 0 then 0 else l.getD (i - 1) 0
theorem before_lt (n i : Nat) (h : i < (cop n).length) : before (cop n) i < (cop n)[i] := by
  unfold before
  split
  · exact (cop_mem (List.getElem_mem h)).1
  · have := (List.pairwise_iff_getElem.1 (cop_sorted n)) (i - 1) i (by omega) h (by omega)
    rw [List.getD_eq_getElem?_getD, List.getElem?_eq_getElem (by omega)]
    exact this
theorem before_succ (l : List Nat) (i : Nat) (h : i < l.length) : before l (i + 1) = l[i] := by
  unfold before
  rw [if_neg (by omega), Nat.add_sub_cancel, List.getD_eq_getElem?_getD, List.getElem?_eq_getElem h]
  rfl
theorem range_rev (n : Nat) : (List.range' 1 n).reverse = (List.range' 1 n).map (fun k => n + 1 - k) := by
  apply List.ext_getElem (by simp)
  intro i h1 h2
  rw [List.getElem_reverse, List.getElem_map, List.getElem_range', List.getElem_range']
  simp at h1 h2 ⊢
  omega
theorem gcd_sub (n k : Nat) (h : k ≤ n) : Nat.gcd (n - k) n = Nat.gcd k n := by
  have h1 : Nat.gcd (n - k) n = Nat.gcd n (n - k) := Nat.gcd_comm _ _
  rw [h1, Nat.gcd_self_sub_right h, Nat.gcd_comm]
theorem cop_short (n : Nat) (hn : 2 ≤ n) : cop n = copTo n (n - 1) := by
  have e : n - 1 + 1 = n := by omega
  have h := copTo_succ n (n - 1)
  rw [e] at h
  rw [if_neg (by rw [Nat.gcd_self]; omega), List.append_nil] at h
  exact h
theorem cop_rev (n : Nat) (hn : 2 ≤ n) : (cop n).reverse = (cop n).map (fun k => n - k) := by
  rw [cop_short n hn]
  unfold copTo
  rw [← List.filter_reverse, range_rev, List.filter_map]
  have e : n - 1 + 1 = n := by omega
  rw [e]
  congr 1
  apply List.filter_congr
  intro k hk
  rw [List.mem_range'_1] at hk
  simp only [Function.comp_apply]
  rw [gcd_sub n k (by omega)]
theorem cop_sym (n i : Nat) (hn : 2 ≤ n) (h : i < (cop n).length) (h2 : (cop n).length - 1 - i < (cop n).length) : (cop n)[i] + (cop n)[(cop n).length - 1 - i] = n := by
  have e : (cop n).reverse[i]? = ((cop n).map (fun k => n - k))[i]? := by rw [cop_rev n hn]
  rw [List.getElem?_reverse h, List.getElem?_map, List.getElem?_eq_getElem h, List.getElem?_eq_getElem h2] at e
  have hm := cop_mem (List.getElem_mem h)
  simp only [Option.map_some, Option.some.injEq] at e
  omega
end Go.Proofs.Qxb6605344a.Plain
