/- Trial division, the sieve, the totient, the symmetry: no Go in sight. -/
import Derived.Test.Qxb6605344aPlain
namespace Go.Proofs.Qxb6605344a.Plain

/-- trial division of n: m is what is left, no divisor of it lies below p -/
structure Fac (n m p : Nat) : Prop where
  pos : 1 ≤ m
  dvd : m ∣ n
  two : 2 ≤ p
  low : ∀ d, 2 ≤ d → d ∣ m → p ≤ d

theorem Fac.start {n : Nat} (h : 1 ≤ n) : Fac n n 2 := ⟨h, Nat.dvd_refl _, Nat.le_refl _, fun _ h _ => h⟩
theorem Fac.le {n m p : Nat} (h : Fac n m p) (hn : 1 ≤ n) : m ≤ n := Nat.le_of_dvd hn h.dvd
/-- p does not divide: on to the next -/
theorem Fac.next {n m p : Nat} (h : Fac n m p) (hp : ¬ p ∣ m) : Fac n m (p + 1) := by
  refine ⟨h.pos, h.dvd, by have := h.two; omega, ?_⟩
  intro d hd hm
  have := h.low d hd hm
  by_cases e : d = p
  · subst e; exact absurd hm hp
  · omega
theorem Fac.cut {n m p : Nat} (h : Fac n m p) (hp : p ∣ m) : Fac n (m / p) p := by
  obtain ⟨c, rfl⟩ := hp
  have h2 := h.two
  have e : p * c / p = c := Nat.mul_div_cancel_left c (by omega)
  rw [e]
  have hc : 1 ≤ c := by
    have := h.pos
    rcases Nat.eq_zero_or_pos c with e | e
    · subst e; simp at this
    · exact e
  exact ⟨hc, Nat.dvd_trans (Nat.dvd_mul_left c p) h.dvd, h2, fun d hd hm => h.low d hd (Nat.dvd_trans hm (Nat.dvd_mul_left c p))⟩
/-- a divisor p of m is prime -/
theorem Fac.prime {n m p : Nat} (h : Fac n m p) (hp : p ∣ m) (k : Nat) (hk : ¬ p ∣ k) : Nat.gcd k p = 1 := by
  have hpos : 0 < Nat.gcd k p := Nat.gcd_pos_of_pos_right _ (by have := h.two; omega)
  by_cases e : 2 ≤ Nat.gcd k p
  · have h1 := h.low _ e (Nat.dvd_trans (Nat.gcd_dvd_right k p) hp)
    have h2 : Nat.gcd k p ≤ p := Nat.le_of_dvd (by have := h.two; omega) (Nat.gcd_dvd_right k p)
    have h3 : Nat.gcd k p = p := by omega
    exact absurd (h3 ▸ Nat.gcd_dvd_left k p) hk
  · omega
/-- what is left at the end is prime, if it is not 1 -/
theorem Fac.last {n m p : Nat} (h : Fac n m p) (hp : m < p * p) (hm : 1 < m) : Fac n m m := by
  refine ⟨h.pos, h.dvd, hm, ?_⟩
  intro d hd hdm
  apply Nat.le_of_not_lt
  intro hlt
  obtain ⟨c, rfl⟩ := hdm
  have hpd := h.low d hd (Nat.dvd_mul_right d c)
  have hc : 2 ≤ c := by
    apply Nat.le_of_not_lt
    intro hc
    have : d * c ≤ d * 1 := Nat.mul_le_mul_left _ (by omega)
    omega
  have hpc := h.low c hc (Nat.dvd_mul_left c d)
  have : p * p ≤ d * c := Nat.mul_le_mul hpd hpc
  omega

/-! ### the sieve -/
/-- the sieve's state: whatever is struck shares a divisor with n; whatever is not, and is coprime to m (and not a multiple of x), is coprime to n -/
structure Siv (n m x : Nat) (S : List Bool) : Prop where
  len : S.length = n + 1
  yes : ∀ k, S[k]? = some true → 1 ≤ k ∧ Nat.gcd k n ≠ 1
  no : ∀ k, 1 ≤ k → S[k]? = some false → ¬ x ∣ k → Nat.gcd k m = 1 → Nat.gcd k n = 1

theorem Siv.start (n : Nat) : Siv n n 0 (List.replicate (n + 1) false) := by
  refine ⟨by simp, ?_, fun k _ _ _ h => h⟩
  intro k hk
  rw [List.getElem?_replicate] at hk
  split at hk <;> simp at hk

theorem Siv.weak {n m : Nat} {S : List Bool} (h : Siv n m 0 S) (x : Nat) : Siv n m x S :=
  ⟨h.len, h.yes, fun k h1 h2 _ h4 => h.no k h1 h2 (by rintro ⟨c, rfl⟩; simp at h1) h4⟩

theorem Siv.cut {n m p : Nat} {S : List Bool} (h : Siv n m p S) (f : Fac n m p) (hp : p ∣ m) : Siv n (m / p) p S := by
  refine ⟨h.len, h.yes, ?_⟩
  intro k h1 h2 h3 h4
  refine h.no k h1 h2 h3 ?_
  obtain ⟨c, rfl⟩ := hp
  rw [Nat.mul_div_cancel_left c (by have := f.two; omega)] at h4
  exact Nat.Coprime.mul_right (f.prime (Nat.dvd_mul_right p c) k h3) h4

/-- the multiples of p below Q struck -/
def struckTo (S : List Bool) (p Q : Nat) : List Bool := S.mapIdx (fun k b => b || (decide (1 ≤ k) && decide (p ∣ k) && decide (k < Q)))

theorem struckTo_len (S : List Bool) (p Q : Nat) : (struckTo S p Q).length = S.length := by simp [struckTo]
theorem struckTo_get (S : List Bool) (p Q k : Nat) : (struckTo S p Q)[k]? = S[k]?.map (fun b => b || (decide (1 ≤ k) && decide (p ∣ k) && decide (k < Q))) := by
  simp [struckTo]
theorem struckTo_start (S : List Bool) (p : Nat) : struckTo S p p = S := by
  apply List.ext_getElem?
  intro k
  rw [struckTo_get]
  have e : (decide (1 ≤ k) && decide (p ∣ k) && decide (k < p)) = false := by
    by_cases h1 : 1 ≤ k
    · by_cases h2 : p ∣ k
      · have := Nat.le_of_dvd h1 h2
        have h3 : decide (k < p) = false := by simp; omega
        rw [h3, Bool.and_false]
      · have h3 : decide (p ∣ k) = false := by simp [h2]
        rw [h3, Bool.and_false, Bool.false_and]
    · have h3 : decide (1 ≤ k) = false := by simp; omega
      rw [h3, Bool.false_and, Bool.false_and]
  rw [e]; simp
theorem struckTo_step (S : List Bool) (p Q : Nat) (hp : 1 ≤ p) (hQ : 1 ≤ Q) (hd : p ∣ Q) : (struckTo S p Q).set Q true = struckTo S p (Q + p) := by
  apply List.ext_getElem?
  intro k
  rw [List.getElem?_set, struckTo_get, struckTo_get, struckTo_len]
  by_cases e : Q = k
  · subst e
    rw [if_pos rfl]
    by_cases hl : Q < S.length
    · rw [if_pos hl, List.getElem?_eq_getElem hl]
      have h3 : decide (1 ≤ Q) = true := by simpa using hQ
      have h4 : decide (p ∣ Q) = true := by simpa using hd
      have h5 : decide (Q < Q + p) = true := by simp; omega
      rw [h3, h4, h5]; simp
    · rw [if_neg hl, List.getElem?_eq_none (by omega)]; rfl
  · rw [if_neg e]
    have e2 : (decide (1 ≤ k) && decide (p ∣ k) && decide (k < Q)) = (decide (1 ≤ k) && decide (p ∣ k) && decide (k < Q + p)) := by
      by_cases h2 : p ∣ k
      · have : decide (k < Q) = decide (k < Q + p) := by
          rw [Bool.eq_iff_iff]
          simp only [decide_eq_true_eq]
          constructor
          · intro h; omega
          · intro h
            apply Nat.lt_of_not_le
            intro hle
            obtain ⟨a, rfl⟩ := hd
            obtain ⟨b, rfl⟩ := h2
            have h6 : a < b := by
              apply Nat.lt_of_not_le
              intro hba
              have := Nat.mul_le_mul_left p hba
              omega
            have h7 : p * (a + 1) ≤ p * b := Nat.mul_le_mul_left _ h6
            rw [Nat.mul_add] at h7
            omega
        rw [this]
      · have h3 : decide (p ∣ k) = false := by simp [h2]
        rw [h3]; simp
    rw [e2]

/-- all multiples of p struck: p divides n, and is prime -/
theorem Siv.strike {n m p Q : Nat} {S : List Bool} (h : Siv n m p S) (hp : 2 ≤ p) (hpn : p ∣ n) (hQ : n < Q) : Siv n m 0 (struckTo S p Q) := by
  refine ⟨by rw [struckTo_len]; exact h.len, ?_, ?_⟩
  · intro k hk
    rw [struckTo_get] at hk
    cases hs : S[k]? with
    | none => rw [hs] at hk; simp at hk
    | some b =>
      rw [hs] at hk
      cases b with
      | true => exact h.yes k hs
      | false =>
        simp only [Option.map_some, Bool.false_or, Option.some.injEq, Bool.and_eq_true, decide_eq_true_eq] at hk
        obtain ⟨⟨h1, h2⟩, _⟩ := hk
        refine ⟨h1, ?_⟩
        intro hg
        have := Nat.le_of_dvd (by omega) (Nat.dvd_gcd h2 hpn)
        omega
  · intro k h1 h2 _ h4
    rw [struckTo_get] at h2
    cases hs : S[k]? with
    | none => rw [hs] at h2; simp at h2
    | some b =>
      have hkl : k < S.length := by
        apply Nat.lt_of_not_le
        intro hle
        rw [List.getElem?_eq_none hle] at hs
        cases hs
      rw [h.len] at hkl
      rw [hs] at h2
      simp only [Option.map_some, Option.some.injEq, Bool.or_eq_false_iff] at h2
      obtain ⟨rfl, h2⟩ := h2
      refine h.no k h1 hs ?_ h4
      intro hd
      have e1 : decide (1 ≤ k) = true := by simpa using h1
      have e2 : decide (p ∣ k) = true := by simpa using hd
      have e3 : decide (k < Q) = true := by simp; omega
      rw [e1, e2, e3] at h2
      cases h2

/-- the sieve is through -/
def Done (n : Nat) (S : List Bool) : Prop := S.length = n + 1 ∧ ∀ k (h : k < S.length), 1 ≤ k → S[k] = !decide (Nat.gcd k n = 1)

theorem Siv.done {n m : Nat} {S : List Bool} (h : Siv n m 0 S) (hm : ∀ k, 1 ≤ k → S[k]? = some false → Nat.gcd k m = 1) : Done n S := by
  refine ⟨h.len, ?_⟩
  intro k hk h1
  have hs : S[k]? = some S[k] := List.getElem?_eq_getElem hk
  cases hb : S[k] with
  | true =>
    rw [hb] at hs
    have := (h.yes k hs).2
    simp [this]
  | false =>
    rw [hb] at hs
    have := h.no k h1 hs (by rintro ⟨c, rfl⟩; simp at h1) (hm k h1 hs)
    simp [this]

theorem Siv.done_one {n : Nat} {S : List Bool} (h : Siv n 1 0 S) : Done n S := h.done (fun k _ _ => Nat.gcd_one_right k)
/-- behind the strike of the last prime m -/
theorem Siv.done_last {n m Q : Nat} {S : List Bool} (h : Siv n m 0 S) (f : Fac n m m) (hQ : n < Q) : Done n (struckTo S m Q) := by
  have h' := (h.weak m).strike f.two f.dvd hQ
  refine h'.done ?_
  intro k h1 hs
  apply f.prime (Nat.dvd_refl m) k
  intro hd
  rw [struckTo_get] at hs
  cases e : S[k]? with
  | none => rw [e] at hs; simp at hs
  | some b =>
    have hkl : k < S.length := by
      apply Nat.lt_of_not_le
      intro hle
      rw [List.getElem?_eq_none hle] at e
      cases e
    rw [h.len] at hkl
    rw [e] at hs
    have e1 : decide (1 ≤ k) = true := by simpa using h1
    have e2 : decide (m ∣ k) = true := by simpa using hd
    have e3 : decide (k < Q) = true := by simp; omega
    rw [e1, e2, e3] at hs
    simp at hs
end Go.Proofs.Qxb6605344a.Plain
