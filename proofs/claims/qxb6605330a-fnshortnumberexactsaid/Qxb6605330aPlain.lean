/- The plain arithmetic of decimal digits. No Go in sight. -/
namespace Go.Proofs.Qxb6605330a.Plain

/-- the value of a run of decimal digits, from the left -/
def val (l : List UInt8) : Nat := l.foldl (fun n c => 10 * n + (c.toNat - 48)) 0
/-- every byte is a decimal digit -/
def Digs (l : List UInt8) : Prop := ∀ c ∈ l, 48 ≤ c.toNat ∧ c.toNat ≤ 57
/-- canonical decimal of n -/
def Canon (l : List UInt8) (n : Nat) : Prop := l ≠ [] ∧ Digs l ∧ val l = n ∧ (l.head? = some 48 → l = [48])

theorem foldl_val (l : List UInt8) (a : Nat) : l.foldl (fun n c => 10 * n + (c.toNat - 48)) a = a * 10 ^ l.length + val l := by
  induction l generalizing a with
  | nil => simp [val]
  | cons c l ih =>
    simp only [val, List.foldl_cons, List.length_cons]
    rw [ih, ih (10 * 0 + (c.toNat - 48)), Nat.pow_succ]
    simp only [Nat.mul_zero, Nat.zero_add, Nat.add_mul]
    rw [Nat.mul_comm 10 a, Nat.mul_assoc, Nat.mul_comm 10 (10 ^ l.length)]
    omega

theorem val_nil : val [] = 0 := rfl
theorem val_cons (c : UInt8) (l : List UInt8) : val (c :: l) = (c.toNat - 48) * 10 ^ l.length + val l := by
  have h := foldl_val l (10 * 0 + (c.toNat - 48))
  simp only [Nat.mul_zero, Nat.zero_add] at h
  simp only [val, List.foldl_cons, Nat.mul_zero, Nat.zero_add]
  exact h
theorem val_append (l r : List UInt8) : val (l ++ r) = val l * 10 ^ r.length + val r := by
  unfold val; rw [List.foldl_append, foldl_val]; rfl
theorem val_snoc (l : List UInt8) (c : UInt8) : val (l ++ [c]) = 10 * val l + (c.toNat - 48) := by
  rw [val_append]; simp [val]; omega

theorem Digs.nil : Digs [] := fun c h => by cases h
theorem Digs.cons {c : UInt8} {l : List UInt8} (h1 : 48 ≤ c.toNat) (h2 : c.toNat ≤ 57) (h : Digs l) : Digs (c :: l) := by
  intro d hd
  rcases List.mem_cons.1 hd with rfl | hd
  · exact ⟨h1, h2⟩
  · exact h d hd
theorem Digs.append {l r : List UInt8} (h : Digs l) (g : Digs r) : Digs (l ++ r) := by
  intro d hd
  rcases List.mem_append.1 hd with hd | hd
  · exact h d hd
  · exact g d hd
theorem Digs.tail {c : UInt8} {l : List UInt8} (h : Digs (c :: l)) : Digs l := fun d hd => h d (List.mem_cons_of_mem _ hd)
theorem Digs.head {c : UInt8} {l : List UInt8} (h : Digs (c :: l)) : 48 ≤ c.toNat ∧ c.toNat ≤ 57 := h c (List.mem_cons_self)
theorem Digs.take {l : List UInt8} (h : Digs l) (k : Nat) : Digs (l.take k) := fun c hc => h c (List.mem_of_mem_take hc)

theorem val_lt (l : List UInt8) (h : Digs l) : val l < 10 ^ l.length := by
  induction l with
  | nil => simp [val]
  | cons c l ih =>
    have := ih h.tail
    have hc := h.head
    rw [val_cons, List.length_cons, Nat.pow_succ]
    have : (c.toNat - 48) * 10 ^ l.length ≤ 9 * 10 ^ l.length := Nat.mul_le_mul_right _ (by omega)
    omega

/-- the first k digits are worth no more than the whole -/
theorem val_take_le (l : List UInt8) (k : Nat) : val (l.take k) ≤ val l := by
  have h : val l = val (l.take k) * 10 ^ (l.drop k).length + val (l.drop k) := by
    rw [← val_append, List.take_append_drop]
  have : 1 ≤ 10 ^ (l.drop k).length := Nat.pos_of_ne_zero (by simp)
  have : val (l.take k) * 1 ≤ val (l.take k) * 10 ^ (l.drop k).length := Nat.mul_le_mul_left _ this
  omega

theorem val_inj : ∀ (l r : List UInt8), Digs l → Digs r → l.length = r.length → val l = val r → l = r
  | [], [], _, _, _, _ => rfl
  | [], _ :: _, _, _, hl, _ => by simp at hl
  | _ :: _, [], _, _, hl, _ => by simp at hl
  | c :: l, d :: r, h, g, hl, hv => by
    have hl' : l.length = r.length := by simpa using hl
    rw [val_cons, val_cons, ← hl'] at hv
    have a := val_lt l h.tail
    have b := val_lt r g.tail
    rw [← hl'] at b
    have hc := h.head
    have hd := g.head
    have e : c.toNat - 48 = d.toNat - 48 := by
      have p : 0 < 10 ^ l.length := Nat.pos_of_ne_zero (by simp)
      have e1 : ((c.toNat - 48) * 10 ^ l.length + val l) / 10 ^ l.length = c.toNat - 48 := by
        rw [Nat.mul_comm, Nat.mul_add_div p, Nat.div_eq_of_lt a]; omega
      have e2 : ((d.toNat - 48) * 10 ^ l.length + val r) / 10 ^ l.length = d.toNat - 48 := by
        rw [Nat.mul_comm, Nat.mul_add_div p, Nat.div_eq_of_lt b]; omega
      rw [← e1, ← e2, hv]
    have ec : c = d := UInt8.toNat_inj.1 (by omega)
    have ev : val l = val r := by rw [e] at hv; omega
    rw [ec, val_inj l r h.tail g.tail hl' ev]

theorem canon_ge {c : UInt8} {l : List UInt8} (h : 49 ≤ c.toNat) : 10 ^ l.length ≤ val (c :: l) := by
  rw [val_cons]
  have : 1 * 10 ^ l.length ≤ (c.toNat - 48) * 10 ^ l.length := Nat.mul_le_mul_right _ (by omega)
  omega

theorem canon_zero {l : List UInt8} (h : Canon l 0) : l = [48] := by
  obtain ⟨h1, h2, h3, h4⟩ := h
  cases l with
  | nil => exact absurd rfl h1
  | cons c l =>
    have hc := h2.head
    by_cases e : c = 48
    · subst e; exact h4 rfl
    · have : c.toNat ≠ 48 := fun h => e (UInt8.toNat_inj.1 (by simpa using h))
      have := canon_ge (c := c) (l := l) (by omega)
      have p : 0 < 10 ^ l.length := Nat.pos_of_ne_zero (by simp)
      omega

theorem canon_unique {l r : List UInt8} {n : Nat} (h : Canon l n) (g : Canon r n) : l = r := by
  by_cases hn : n = 0
  · subst hn; rw [canon_zero h, canon_zero g]
  · obtain ⟨h1, h2, h3, h4⟩ := h
    obtain ⟨g1, g2, g3, g4⟩ := g
    cases l with
    | nil => exact absurd rfl h1
    | cons c l =>
    cases r with
    | nil => exact absurd rfl g1
    | cons d r =>
      have hc := h2.head
      have hd := g2.head
      have nc : c.toNat ≠ 48 := by
        intro e
        have e' : c = 48 := UInt8.toNat_inj.1 (by simpa using e)
        subst e'; have := h4 rfl; rw [this] at h3; simp [val] at h3; omega
      have nd : d.toNat ≠ 48 := by
        intro e
        have e' : d = 48 := UInt8.toNat_inj.1 (by simpa using e)
        subst e'; have := g4 rfl; rw [this] at g3; simp [val] at g3; omega
      have a1 := canon_ge (c := c) (l := l) (by omega)
      have a2 := val_lt _ h2
      have b1 := canon_ge (c := d) (l := r) (by omega)
      have b2 := val_lt _ g2
      rw [h3] at a1 a2
      rw [g3] at b1 b2
      simp only [List.length_cons] at a2 b2
      have k1 : l.length < r.length + 1 := (Nat.pow_lt_pow_iff_right (a := 10) (by omega)).1 (by omega)
      have k2 : r.length < l.length + 1 := (Nat.pow_lt_pow_iff_right (a := 10) (by omega)).1 (by omega)
      exact val_inj _ _ h2 g2 (by simp; omega) (by rw [h3, g3])

/-- a run of digits of at most 18 places is below 10^18 -/
theorem canon_len {l : List UInt8} {n : Nat} (h : Canon l n) (hn : n < 10 ^ 18) : l.length ≤ 18 := by
  obtain ⟨h1, h2, h3, h4⟩ := h
  cases l with
  | nil => exact absurd rfl h1
  | cons c l =>
    have hc := h2.head
    by_cases e : c = 48
    · subst e; have := h4 rfl; rw [this]; simp
    · have : c.toNat ≠ 48 := fun h => e (UInt8.toNat_inj.1 (by simpa using h))
      have a1 := canon_ge (c := c) (l := l) (by omega)
      rw [h3] at a1
      have : l.length < 18 := (Nat.pow_lt_pow_iff_right (a := 10) (by omega)).1 (by omega)
      simp; omega

end Go.Proofs.Qxb6605330a.Plain
namespace Go.Proofs.Qxb6605330a.Plain
/-- the state of the digits' loop: m is still to be written, l has been -/
structure FmtInv (n m : Nat) (l : List UInt8) : Prop where
  digs : Digs l
  sum : val l + m * 10 ^ l.length = n
  top : l = [] ∨ 0 < m ∨ l.head? ≠ some 48

theorem FmtInv.start (n : Nat) : FmtInv n n [] := ⟨Digs.nil, by simp [val], Or.inl rfl⟩

theorem dig_toNat (m : Nat) : (UInt8.ofNat (48 + m % 10)).toNat = 48 + m % 10 := by
  simp [UInt8.toNat_ofNat']; omega

theorem FmtInv.step {n m : Nat} {l : List UInt8} (h : FmtInv n m l) (hm : 0 < m) : FmtInv n (m / 10) (UInt8.ofNat (48 + m % 10) :: l) := by
  have e := dig_toNat m
  refine ⟨Digs.cons (by omega) (by omega) h.digs, ?_, ?_⟩
  · rw [val_cons, e, List.length_cons, Nat.pow_succ]
    have hs := h.sum
    have e2 : m * 10 ^ l.length = (m / 10) * (10 ^ l.length * 10) + (48 + m % 10 - 48) * 10 ^ l.length := by
      have : m = 10 * (m / 10) + m % 10 := by omega
      have e3 : 48 + m % 10 - 48 = m % 10 := by omega
      rw [e3]
      calc m * 10 ^ l.length = (10 * (m / 10) + m % 10) * 10 ^ l.length := by rw [← this]
        _ = (m / 10) * (10 ^ l.length * 10) + m % 10 * 10 ^ l.length := by
          rw [Nat.add_mul, Nat.mul_comm 10 (m / 10), Nat.mul_assoc, Nat.mul_comm 10 (10 ^ l.length)]
    omega
  · by_cases hq : 0 < m / 10
    · exact Or.inr (Or.inl hq)
    · refine Or.inr (Or.inr ?_)
      intro hh
      simp only [List.head?_cons, Option.some.injEq] at hh
      have : (UInt8.ofNat (48 + m % 10)).toNat = (48 : UInt8).toNat := by rw [hh]
      rw [e] at this
      simp at this
      omega

theorem FmtInv.len {n m : Nat} {l : List UInt8} (h : FmtInv n m l) (hm : 0 < m) (hn : n < 10 ^ 18) : l.length < 18 := by
  have hs := h.sum
  have : 1 * 10 ^ l.length ≤ m * 10 ^ l.length := Nat.mul_le_mul_right _ hm
  exact (Nat.pow_lt_pow_iff_right (a := 10) (by omega)).1 (by omega)

theorem FmtInv.done {n : Nat} {l : List UInt8} (h : FmtInv n 0 l) (hn : 0 < n) : Canon l n := by
  have hs := h.sum
  simp only [Nat.zero_mul, Nat.add_zero] at hs
  refine ⟨?_, h.digs, hs, ?_⟩
  · intro e; rw [e] at hs; simp [val] at hs; omega
  · intro hh
    rcases h.top with e | e | e
    · rw [e] at hh; simp at hh
    · omega
    · exact absurd hh e

/-- a number's text: its canonical digits l behind its sign -/
def fmtOf (v : Int) (l : List UInt8) : List UInt8 := if v < 0 then 45 :: l else l
theorem canon_0 : Canon [48] 0 := ⟨by simp, Digs.cons (by decide) (by decide) Digs.nil, rfl, fun _ => rfl⟩
end Go.Proofs.Qxb6605330a.Plain

namespace Go.Proofs.Qxb6605330a.Plain
/-- the bytes of s from i on, k of them -/
def seg (s : ByteArray) (i k : Nat) : List UInt8 := (s.data.toList.drop i).take k

theorem seg_zero (s : ByteArray) (i : Nat) : seg s i 0 = [] := by simp [seg]
theorem seg_snoc (s : ByteArray) (i p : Nat) (hip : i ≤ p) (h : p < s.size) : seg s i (p + 1 - i) = seg s i (p - i) ++ [s[p]] := by
  unfold seg
  have e : p + 1 - i = (p - i) + 1 := by omega
  have hl : p - i < (s.data.toList.drop i).length := by
    rw [List.length_drop, Array.length_toList]
    have : s.data.size = s.size := rfl
    omega
  rw [e, List.take_succ_eq_append_getElem hl]
  congr 2
  simp only [List.getElem_drop]
  have : i + (p - i) = p := by omega
  simp only [this]
  rfl
theorem val_seg_step (s : ByteArray) (i p : Nat) (hip : i ≤ p) (h : p < s.size) : val (seg s i (p + 1 - i)) = 10 * val (seg s i (p - i)) + (s[p].toNat - 48) := by
  rw [seg_snoc s i p hip h, val_snoc]
theorem val_seg_le (s : ByteArray) (i p j : Nat) (hpj : p ≤ j) : val (seg s i (p - i)) ≤ val (seg s i (j - i)) := by
  have : seg s i (p - i) = (seg s i (j - i)).take (p - i) := by
    unfold seg; rw [List.take_take]; congr 1; omega
  rw [this]; exact val_take_le _ _


theorem get_list (s : ByteArray) (p : Nat) (h : p < s.size) : s[p] = s.data.toList[p]'(by rw [Array.length_toList]; exact h) := rfl

/-- a text that reads: A, the digits l, a colon, B, C -/
theorem text_size {T : ByteArray} {A l B C : List UInt8} (hT : T.data.toList = A ++ (l ++ 58 :: (B ++ C))) : T.size = A.length + (l.length + (1 + (B.length + C.length))) := by
  have : T.size = T.data.toList.length := by rw [Array.length_toList]; rfl
  rw [this, hT]; simp; omega
theorem text_seg {T : ByteArray} {A l R : List UInt8} (hT : T.data.toList = A ++ (l ++ R)) : seg T A.length l.length = l := by
  unfold seg; rw [hT, List.drop_left, List.take_left]
theorem text_dig {T : ByteArray} {A l R : List UInt8} (hT : T.data.toList = A ++ (l ++ R)) (hd : Digs l) (p : Nat) (h : p < T.size) (h1 : A.length ≤ p) (h2 : p < A.length + l.length) : 48 ≤ T[p].toNat ∧ T[p].toNat ≤ 57 := by
  refine hd T[p] ?_
  rw [get_list]
  simp only [hT]
  rw [List.getElem_append_right h1, List.getElem_append_left (by omega)]
  exact List.getElem_mem _
theorem text_at {T : ByteArray} {A l R : List UInt8} {c : UInt8} (hT : T.data.toList = A ++ (l ++ c :: R)) (h : A.length + l.length < T.size) : T[A.length + l.length] = c := by
  rw [get_list]
  simp only [hT]
  rw [List.getElem_append_right (by omega), List.getElem_append_right (by omega)]
  simp [Nat.add_sub_cancel_left]
theorem text_cut {T : ByteArray} {A l C : List UInt8} {B : ByteArray} (hT : T.data.toList = A ++ (l ++ 58 :: (B.data.toList ++ C))) : T.extract (A.length + l.length + 1) (A.length + l.length + 1 + B.size) = B := by
  apply ByteArray.ext
  apply Array.toList_inj.1
  rw [ByteArray.data_extract]
  have e : A ++ (l ++ 58 :: (B.data.toList ++ C)) = (A ++ (l ++ [58])) ++ (B.data.toList ++ C) := by simp
  rw [Array.toList_extract, hT, e, List.extract_eq_take_drop]
  have e2 : A.length + l.length + 1 = (A ++ (l ++ [58])).length := by simp; omega
  rw [e2, List.drop_left]
  have e3 : (A ++ (l ++ [58])).length + B.size - (A ++ (l ++ [58])).length = B.data.toList.length := by
    rw [Nat.add_sub_cancel_left]; exact Array.length_toList.symm
  rw [e3, List.take_left]
end Go.Proofs.Qxb6605330a.Plain
