/- The plain arithmetic of the numbers coprime to n. No Go in sight. -/
namespace Go.Proofs.Qxb6605344a.Plain

/-- of 1 .. k those that are coprime to n -/
def copTo (n k : Nat) : List Nat := (List.range' 1 k).filter (fun j => Nat.gcd j n == 1)
def cop (n : Nat) : List Nat := copTo n n

theorem copTo_zero (n : Nat) : copTo n 0 = [] := rfl
theorem copTo_succ (n k : Nat) : copTo n (k + 1) = copTo n k ++ (if Nat.gcd (k + 1) n = 1 then [k + 1] else []) := by
  unfold copTo
  rw [List.range'_concat, List.filter_append]
  congr 1
  have e : 1 + 1 * k = k + 1 := by omega
  rw [e]
  by_cases h : Nat.gcd (k + 1) n = 1
  · simp [h]
  · simp [h]
theorem copTo_len (n k : Nat) : (copTo n k).length ≤ k := by
  unfold copTo
  have := List.length_filter_le (fun j => Nat.gcd j n == 1) (List.range' 1 k)
  simpa using this
theorem copTo_add (n k m : Nat) : ∃ r, copTo n (k + m) = copTo n k ++ r := by
  induction m with
  | zero => exact ⟨[], by simp⟩
  | succ m ih =>
    obtain ⟨r, hr⟩ := ih
    rw [← Nat.add_assoc, copTo_succ, hr, List.append_assoc]
    exact ⟨_, rfl⟩
/-- where k + 1 stands in the list -/
theorem cop_at (n k : Nat) (hk : k < n) (hg : Nat.gcd (k + 1) n = 1) : (copTo n k).length < (cop n).length ∧ (cop n)[(copTo n k).length]? = some (k + 1) := by
  obtain ⟨r, hr⟩ := copTo_add n (k + 1) (n - (k + 1))
  have e : k + 1 + (n - (k + 1)) = n := by omega
  rw [e] at hr
  have h2 : cop n = copTo n k ++ (k + 1) :: r := by
    unfold cop; rw [hr, copTo_succ, if_pos hg]; simp
  rw [h2]
  exact ⟨by simp, by simp⟩

/-- the number of j in a .. a + len - 1 that p takes -/
def cnt (p : Nat → Bool) (a len : Nat) : Nat := ((List.range' a len).filter p).length

theorem cnt_zero (p : Nat → Bool) (a : Nat) : cnt p a 0 = 0 := rfl
theorem cnt_succ (p : Nat → Bool) (a k : Nat) : cnt p a (k + 1) = cnt p a k + (if p (a + k) = true then 1 else 0) := by
  unfold cnt
  rw [List.range'_concat, List.filter_append, List.length_append]
  congr 1
  have e : a + 1 * k = a + k := by omega
  rw [e]
  by_cases h : p (a + k) = true <;> simp [h]
theorem cnt_add (p : Nat → Bool) (a x y : Nat) : cnt p a (x + y) = cnt p a x + cnt p (a + x) y := by
  induction y with
  | zero => simp [cnt_zero]
  | succ y ih => rw [← Nat.add_assoc, cnt_succ, ih, cnt_succ, Nat.add_assoc, Nat.add_assoc]
theorem cnt_congr {p q : Nat → Bool} {a len : Nat} (h : ∀ j, a ≤ j → j < a + len → p j = q j) : cnt p a len = cnt q a len := by
  induction len with
  | zero => rfl
  | succ k ih => rw [cnt_succ, cnt_succ, ih (fun j h1 h2 => h j h1 (by omega)), h (a + k) (by omega) (by omega)]
theorem cnt_shift (p : Nat → Bool) (a s len : Nat) : cnt p (a + s) len = cnt (fun j => p (j + s)) a len := by
  induction len with
  | zero => rfl
  | succ k ih =>
    rw [cnt_succ, cnt_succ, ih]
    have e : a + s + k = a + k + s := by omega
    rw [e]
theorem cnt_le (p : Nat → Bool) (a len : Nat) : cnt p a len ≤ len := by
  unfold cnt
  have := List.length_filter_le p (List.range' a len)
  simpa using this
theorem cnt_all {p : Nat → Bool} {a len : Nat} (h : ∀ j, a ≤ j → j < a + len → p j = true) : cnt p a len = len := by
  induction len with
  | zero => rfl
  | succ k ih => rw [cnt_succ, ih (fun j h1 h2 => h j h1 (by omega)), if_pos (h (a + k) (by omega) (by omega))]
theorem cnt_none {p : Nat → Bool} {a len : Nat} (h : ∀ j, a ≤ j → j < a + len → p j = false) : cnt p a len = 0 := by
  induction len with
  | zero => rfl
  | succ k ih => rw [cnt_succ, ih (fun j h1 h2 => h j h1 (by omega)), if_neg (by rw [h (a + k) (by omega) (by omega)]; simp)]
/-- parted by q -/
theorem cnt_part (p q : Nat → Bool) (a len : Nat) : cnt p a len = cnt (fun j => p j && !q j) a len + cnt (fun j => q j && p j) a len := by
  induction len with
  | zero => rfl
  | succ k ih =>
    rw [cnt_succ, cnt_succ, cnt_succ, ih]
    cases p (a + k) <;> cases q (a + k) <;> simp <;> omega
theorem cnt_or (p q : Nat → Bool) (a len : Nat) (h : ∀ j, p j = true → q j = true → False) : cnt (fun j => p j || q j) a len = cnt p a len + cnt q a len := by
  induction len with
  | zero => rfl
  | succ k ih =>
    rw [cnt_succ, cnt_succ, cnt_succ, ih]
    cases hp : p (a + k) <;> cases hq : q (a + k)
    · simp
    · simp; omega
    · simp; omega
    · exact (h _ hp hq).elim
/-- a period -/
theorem cnt_period (p : Nat → Bool) (R t : Nat) (h : ∀ j, p (j + R) = p j) : cnt p 1 (R * t) = t * cnt p 1 R := by
  induction t with
  | zero => simp [cnt_zero]
  | succ t ih =>
    rw [Nat.mul_succ, cnt_add, ih]
    have e : ∀ t, cnt p (1 + R * t) R = cnt p 1 R := by
      intro t
      rw [cnt_shift]
      apply cnt_congr
      intro j _ _
      induction t with
      | zero => simp
      | succ t ih2 => rw [Nat.mul_succ, ← Nat.add_assoc, h, ih2]
    rw [e, Nat.succ_mul]
/-- the multiples of g up to g * t -/
theorem cnt_mult (q : Nat → Bool) (g t : Nat) (hg : 0 < g) : cnt (fun k => decide (g ∣ k) && q k) 1 (g * t) = cnt (fun j => q (g * j)) 1 t := by
  induction t with
  | zero => simp [cnt_zero]
  | succ t ih =>
    rw [Nat.mul_succ, cnt_add, ih, cnt_succ]
    congr 1
    obtain ⟨u, rfl⟩ : ∃ u, g = u + 1 := ⟨g - 1, by omega⟩
    rw [cnt_succ, cnt_none]
    · have e : 1 + (u + 1) * t + u = (u + 1) * (1 + t) := by rw [Nat.mul_add]; omega
      rw [e]
      have : decide (u + 1 ∣ (u + 1) * (1 + t)) = true := decide_eq_true (Nat.dvd_mul_right _ _)
      rw [this]; simp
    · intro j h1 h2
      have : decide (u + 1 ∣ j) = false := by
        rw [decide_eq_false_iff_not]
        rintro ⟨c, rfl⟩
        have a : t < c := Nat.lt_of_mul_lt_mul_left (a := u + 1) (by omega)
        have b : (u + 1) * (t + 1) ≤ (u + 1) * c := Nat.mul_le_mul_left _ (by omega)
        rw [Nat.mul_add] at b
        omega
      rw [this]; rfl

theorem copTo_cnt (n k : Nat) : (copTo n k).length = cnt (fun j => Nat.gcd j n == 1) 1 k := rfl
theorem cop_cnt (n : Nat) : (cop n).length = cnt (fun j => Nat.gcd j n == 1) 1 n := rfl

/-! ### Gauss: the divisors' lists together are as long as n -/
/-- the sum over the divisors of n up to D -/
def sumTo (n : Nat) : Nat → Nat
  | 0 => 0
  | D + 1 => sumTo n D + (if (D + 1) ∣ n then (cop (D + 1)).length else 0)

theorem class_cnt (n D : Nat) (hn : 0 < n) (hD : 0 < D) : cnt (fun k => n / Nat.gcd k n == D) 1 n = if D ∣ n then (cop D).length else 0 := by
  by_cases h : D ∣ n
  · rw [if_pos h]
    obtain ⟨g, rfl⟩ := h
    have hg : 0 < g := Nat.pos_of_mul_pos_left hn
    have e : cnt (fun k => D * g / Nat.gcd k (D * g) == D) 1 (D * g) = cnt (fun k => decide (g ∣ k) && (Nat.gcd k (D * g) == g)) 1 (D * g) := by
      apply cnt_congr
      intro k hk _
      have hpos : 0 < Nat.gcd k (D * g) := Nat.gcd_pos_of_pos_right _ hn
      have hdv : Nat.gcd k (D * g) ∣ D * g := Nat.gcd_dvd_right _ _
      rw [Bool.eq_iff_iff]
      simp only [beq_iff_eq, Bool.and_eq_true, decide_eq_true_eq]
      constructor
      · intro h
        have h2 : D * g = D * Nat.gcd k (D * g) := by
          have := Nat.div_mul_cancel hdv
          rw [h] at this
          exact this.symm
        have h3 : g = Nat.gcd k (D * g) := Nat.eq_of_mul_eq_mul_left hD h2
        refine ⟨?_, h3.symm⟩
        have := Nat.gcd_dvd_left k (D * g)
        rw [← h3] at this
        exact this
      · rintro ⟨_, h⟩
        rw [h]; exact Nat.mul_div_cancel _ hg
    rw [e, Nat.mul_comm D g, cnt_mult _ g D hg, cop_cnt]
    apply cnt_congr
    intro j _ _
    rw [Nat.gcd_mul_left, Bool.eq_iff_iff]
    simp only [beq_iff_eq]
    constructor
    · intro h
      exact Nat.eq_of_mul_eq_mul_left hg (by rw [h]; simp)
    · intro h; rw [h]; simp
  · rw [if_neg h]
    apply cnt_none
    intro k _ _
    rw [beq_eq_false_iff_ne]
    intro e
    apply h
    rw [← e]
    exact Nat.div_dvd_of_dvd (Nat.gcd_dvd_right _ _)

theorem sumTo_cnt (n D : Nat) (hn : 0 < n) : sumTo n D = cnt (fun k => decide (n / Nat.gcd k n ≤ D)) 1 n := by
  induction D with
  | zero =>
    rw [sumTo, cnt_none]
    intro k _ _
    have hpos : 0 < Nat.gcd k n := Nat.gcd_pos_of_pos_right _ hn
    have : 0 < n / Nat.gcd k n := Nat.div_pos (Nat.gcd_le_right _ hn) hpos
    exact decide_eq_false (by omega)
  | succ D ih =>
    rw [sumTo, ih, ← class_cnt n (D + 1) hn (by omega), ← cnt_or]
    · apply cnt_congr
      intro k _ _
      rw [Bool.eq_iff_iff]
      simp
      omega
    · intro k h1 h2
      simp at h1 h2
      omega

theorem gauss (n : Nat) (hn : 0 < n) : sumTo n n = n := by
  rw [sumTo_cnt n n hn]
  apply cnt_all
  intro k _ _
  simp
  exact Nat.div_le_self _ _

theorem cop_head (d : Nat) (hd : 0 < d) : 0 < (cop d).length ∧ (cop d)[0]? = some 1 := by
  have := cop_at d 0 hd (by simp)
  simpa [copTo_zero] using this
theorem cop_len_pos_le (d : Nat) : (cop d).length ≤ d := copTo_len d d
theorem sumTo_le (n D : Nat) (hn : 0 < n) : sumTo n D ≤ n := by rw [sumTo_cnt n D hn]; exact cnt_le _ _ _
end Go.Proofs.Qxb6605344a.Plain
