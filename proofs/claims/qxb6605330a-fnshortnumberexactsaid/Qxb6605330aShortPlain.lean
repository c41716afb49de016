/- What shortNumber and its model agree on: no Go in sight. -/
import Derived.Test.Qxb6605330aPlain
namespace Go.Proofs.Qxb6605330a.Plain

/-- the byte at p -/
theorem seg_len (s : ByteArray) (i k : Nat) (h : i + k ≤ s.size) : (seg s i k).length = k := by
  unfold seg
  rw [List.length_take, List.length_drop, Array.length_toList]
  have : s.data.size = s.size := rfl
  omega
theorem seg_get (s : ByteArray) (i k t : Nat) (h : t < (seg s i k).length) (h2 : i + t < s.size) : (seg s i k)[t] = s[i + t] := by
  unfold seg at h ⊢
  rw [List.getElem_take, List.getElem_drop]
  rfl
theorem seg_len_le (s : ByteArray) (i k : Nat) : (seg s i k).length ≤ k := by
  unfold seg; rw [List.length_take]; omega
theorem seg_len_in (s : ByteArray) (i k t : Nat) (h : t < (seg s i k).length) : i + t < s.size := by
  unfold seg at h
  rw [List.length_take, List.length_drop, Array.length_toList] at h
  have : s.data.size = s.size := rfl
  omega

/-- the number's text stands at i and ends at k, where the stop byte is -/
def Acc (s : ByteArray) (i : Nat) (st : Int) (signed : Bool) (v : Int) (k : Nat) : Prop :=
  i ≤ k ∧ (∃ h : k < s.size, ((s[k]'h).toNat : Int) = st) ∧ (v < 0 → signed = true) ∧ ∃ l : List UInt8, Canon l v.natAbs ∧ l.length ≤ 18 ∧ seg s i (k - i) = fmtOf v l

/-- a minus sign stands at i and is let -/
def negB (s : ByteArray) (i : Nat) (signed : Bool) : Bool := signed && (s.data.toList[i]? == some 45)
/-- where the digits begin -/
def fromB (s : ByteArray) (i : Nat) (signed : Bool) : Nat := if negB s i signed then i + 1 else i

theorem negB_false {s : ByteArray} {i : Nat} : negB s i false = false := rfl
theorem negB_out {s : ByteArray} {i : Nat} {signed : Bool} (h : ¬ i < s.size) : negB s i signed = false := by
  unfold negB
  have : s.data.toList[i]? = none := by
    rw [List.getElem?_eq_none_iff, Array.length_toList]; have : s.data.size = s.size := rfl
    omega
  rw [this]; cases signed <;> rfl
theorem negB_in {s : ByteArray} {i : Nat} (h : i < s.size) : negB s i true = ((s[i].toNat : Int) == 45) := by
  unfold negB
  have : s.data.toList[i]? = some s[i] := by
    rw [List.getElem?_eq_getElem (by rw [Array.length_toList]; exact h)]; rfl
  rw [this, Bool.true_and, Bool.eq_iff_iff]
  simp only [beq_iff_eq, Option.some.injEq]
  constructor
  · intro e; rw [e]; rfl
  · intro e; exact UInt8.toNat_inj.1 (by simp; omega)

/-- the digits' loop, in a round -/
structure LoopRel (s : ByteArray) (f j : Nat) (x : Int) : Prop where
  le : f ≤ j
  cap : j ≤ f + 19
  digs : ∀ p (h : p < s.size), f ≤ p → p < j → 48 ≤ s[p].toNat ∧ s[p].toNat ≤ 57
  inn : f < j → j ≤ s.size
  num : j ≤ f + 18 → x = (val (seg s f (j - f)) : Int)

/-- the loop has ended -/
structure LoopEnd (s : ByteArray) (f j : Nat) (x : Int) : Prop extends LoopRel s f j x where
  stop : j < f + 19 → ∀ h : j < s.size, ¬ (48 ≤ (s[j]'h).toNat ∧ (s[j]'h).toNat ≤ 57)

theorem LoopRel.start (s : ByteArray) (f : Nat) : LoopRel s f f 0 :=
  ⟨Nat.le_refl _, by omega, fun p h h1 h2 => by omega, fun h => by omega, fun _ => by simp [seg_zero, val_nil]⟩

theorem LoopRel.seg_digs {s : ByteArray} {f j : Nat} {x : Int} (h : LoopRel s f j x) : Digs (seg s f (j - f)) := by
  intro c hc
  obtain ⟨t, ht, rfl⟩ := List.getElem_of_mem hc
  have h1 := seg_len_in s f (j - f) t ht
  have h2 := seg_len_le s f (j - f)
  rw [seg_get s f (j - f) t ht h1]
  exact h.digs (f + t) h1 (by omega) (by omega)

theorem LoopRel.num_lt {s : ByteArray} {f j : Nat} {x : Int} (h : LoopRel s f j x) (hj : j ≤ f + 18) : 0 ≤ x ∧ x < 1000000000000000000 := by
  have e := h.num hj
  have h1 := val_lt _ h.seg_digs
  have h2 := seg_len_le s f (j - f)
  have h3 : 10 ^ (seg s f (j - f)).length ≤ 10 ^ 18 := Nat.pow_le_pow_right (by omega) (by omega)
  omega
theorem LoopRel.num_lt' {s : ByteArray} {f j : Nat} {x : Int} (h : LoopRel s f j x) (hj : j < f + 18) : 0 ≤ x ∧ x < 100000000000000000 := by
  have e := h.num (by omega)
  have h1 := val_lt _ h.seg_digs
  have h2 := seg_len_le s f (j - f)
  have h3 : 10 ^ (seg s f (j - f)).length ≤ 10 ^ 17 := Nat.pow_le_pow_right (by omega) (by omega)
  omega

theorem LoopRel.step {s : ByteArray} {f j : Nat} {x y : Int} (h : LoopRel s f j x) (hs : j < s.size) (hj : j ≤ f + 18) (h1 : 48 ≤ s[j].toNat) (h2 : s[j].toNat ≤ 57)
    (hy : j < f + 18 → y = 10 * x + ((s[j].toNat : Int) - 48)) : LoopRel s f (j + 1) y := by
  have hle := h.le
  refine ⟨by omega, by omega, ?_, fun _ => by omega, ?_⟩
  · intro p hp g1 g2
    by_cases e : p = j
    · subst e; exact ⟨h1, h2⟩
    · exact h.digs p hp g1 (by omega)
  · intro hj'
    rw [hy (by omega), h.num hj, val_seg_step s f j h.le hs]
    omega

/-- what shortNumber refuses -/
def Rej (s : ByteArray) (f j : Nat) (st : Int) (neg : Bool) : Prop :=
  j = f ∨ f + 18 < j ∨ j = s.size ∨ (∃ h : j < s.size, ((s[j]'h).toNat : Int) ≠ st) ∨ (∃ h : f < s.size, ((s[f]'h).toNat : Int) = 48 ∧ (f + 1 < j ∨ neg = true))

theorem fmtOf_len (v : Int) (l : List UInt8) : (fmtOf v l).length = l.length + (if v < 0 then 1 else 0) := by
  unfold fmtOf; split <;> simp

/-- the digits of an accepted text -/
theorem Acc.parts {s : ByteArray} {i : Nat} {st : Int} {signed : Bool} {v : Int} {k : Nat} (h : Acc s i st signed v k) :
    negB s i signed = decide (v < 0) ∧ ∃ l : List UInt8, Canon l v.natAbs ∧ l.length ≤ 18 ∧ k = fromB s i signed + l.length ∧ (∃ h : k < s.size, ((s[k]'h).toNat : Int) = st) ∧
      ∀ t (ht : t < l.length), ∃ hs : fromB s i signed + t < s.size, s[fromB s i signed + t]'hs = l[t] := by
  obtain ⟨hik, ⟨hk, hst⟩, hsg, l, hc, hl, hseg⟩ := h
  have hlen : (seg s i (k - i)).length = k - i := seg_len s i (k - i) (by omega)
  have hlen2 := hlen
  rw [hseg, fmtOf_len] at hlen2
  by_cases hv : v < 0
  · rw [if_pos hv] at hlen2
    have hi : i < s.size := by omega
    have e0 : s[i] = 45 := by
      have := seg_get s i (k - i) 0 (by omega) (by omega)
      simp only [hseg, fmtOf, if_pos hv] at this
      simpa using this.symm
    have en : negB s i signed = true := by
      rw [hsg hv, negB_in hi, e0]; rfl
    refine ⟨by rw [en]; simp [hv], l, hc, hl, ?_, ⟨hk, hst⟩, ?_⟩
    · rw [fromB, en, if_pos rfl]; omega
    · intro t ht
      rw [fromB, en, if_pos rfl]
      refine ⟨by omega, ?_⟩
      have := seg_get s i (k - i) (t + 1) (by omega) (by omega)
      simp only [hseg, fmtOf, if_pos hv] at this
      simp only [List.getElem_cons_succ] at this
      rw [this]
      congr 1; omega
  · rw [if_neg hv] at hlen2
    have hlp : 0 < l.length := List.length_pos_iff.2 hc.1
    have hi : i < s.size := by omega
    have e0 : s[i] = l[0] := by
      have := seg_get s i (k - i) 0 (by omega) (by omega)
      simp only [hseg, fmtOf, if_neg hv] at this
      simpa using this.symm
    have hd := hc.2.1 l[0] (List.getElem_mem _)
    have en : negB s i signed = false := by
      cases signed with
      | false => rfl
      | true => rw [negB_in hi, e0, beq_eq_false_iff_ne]; omega
    refine ⟨by rw [en]; simp [hv], l, hc, hl, ?_, ⟨hk, hst⟩, ?_⟩
    · rw [fromB, en, if_neg (by simp)]; omega
    · intro t ht
      rw [fromB, en, if_neg (by simp)]
      refine ⟨by omega, ?_⟩
      have := seg_get s i (k - i) t (by omega) (by omega)
      simp only [hseg, fmtOf, if_neg hv] at this
      exact this.symm

theorem LoopEnd.meets {s : ByteArray} {i : Nat} {st : Int} {signed : Bool} {v : Int} {k j : Nat} {x : Int} (hst : ¬ (48 ≤ st ∧ st ≤ 57)) (h : Acc s i st signed v k) (e : LoopEnd s (fromB s i signed) j x) : j = k := by
  obtain ⟨-, l, hc, hl, hk, ⟨hks, hkst⟩, hb⟩ := h.parts
  have hle := e.le
  rcases Nat.lt_trichotomy j k with g | g | g
  · exfalso
    obtain ⟨hs, hx⟩ := hb (j - fromB s i signed) (by omega)
    have hd := hc.2.1 l[j - fromB s i signed] (List.getElem_mem _)
    refine e.stop (by omega) (by omega) ?_
    rw [← hx] at hd
    have ej : fromB s i signed + (j - fromB s i signed) = j := by omega
    simp only [ej] at hd
    exact hd
  · exact g
  · exfalso
    have := e.digs k hks (by omega) g
    omega

theorem rej_of {s : ByteArray} {i : Nat} {st : Int} {signed : Bool} {j : Nat} {x : Int} (hst : ¬ (48 ≤ st ∧ st ≤ 57)) (e : LoopEnd s (fromB s i signed) j x)
    (hr : Rej s (fromB s i signed) j st (negB s i signed)) (v : Int) (k : Nat) : ¬ Acc s i st signed v k := by
  intro h
  have hjk := e.meets hst h
  subst hjk
  obtain ⟨hn, l, hc, hl, hk, ⟨hks, hkst⟩, hb⟩ := h.parts
  have hlp : 0 < l.length := List.length_pos_iff.2 hc.1
  rcases hr with h | h | h | ⟨h, hh⟩ | ⟨h, h48, hh⟩
  · omega
  · omega
  · omega
  · exact hh hkst
  · obtain ⟨hs, hx⟩ := hb 0 hlp
    simp only [Nat.add_zero] at hx
    have e48 : l[0] = 48 := by
      rw [← hx]; exact UInt8.toNat_inj.1 (by simp; omega)
    have hl1 : l = [48] := hc.2.2.2 (by rw [List.head?_eq_getElem?, List.getElem?_eq_getElem hlp, e48])
    rcases hh with hh | hh
    · rw [hl1] at hk; simp at hk; omega
    · rw [hh] at hn
      have : v < 0 := by simpa using hn.symm
      have h0 : val l = v.natAbs := hc.2.2.1
      rw [hl1] at h0
      simp [val] at h0
      omega

theorem acc_of {s : ByteArray} {i : Nat} {st : Int} {signed : Bool} {j : Nat} {x : Int} (e : LoopEnd s (fromB s i signed) j x)
    (hr : ¬ Rej s (fromB s i signed) j st (negB s i signed)) : Acc s i st signed (if negB s i signed = true then -x else x) j := by
  have hle := e.le
  have hnj : j ≠ fromB s i signed := fun h => hr (Or.inl h)
  have h18 : j ≤ fromB s i signed + 18 := by
    apply Nat.le_of_not_lt; intro h; exact hr (Or.inr (Or.inl h))
  have hin := e.inn (by omega)
  have hnz : j ≠ s.size := fun h => hr (Or.inr (Or.inr (Or.inl h)))
  have hjs : j < s.size := by omega
  have hst : ((s[j]'hjs).toNat : Int) = st := by
    apply Decidable.byContradiction; intro h; exact hr (Or.inr (Or.inr (Or.inr (Or.inl ⟨hjs, h⟩))))
  have hlead : ∀ h : fromB s i signed < s.size, ((s[fromB s i signed]'h).toNat : Int) = 48 → j = fromB s i signed + 1 ∧ negB s i signed = false := by
    intro h h48
    refine ⟨?_, ?_⟩
    · apply Decidable.byContradiction; intro hh
      exact hr (Or.inr (Or.inr (Or.inr (Or.inr ⟨h, h48, Or.inl (by omega)⟩))))
    · cases hh : negB s i signed with
      | false => rfl
      | true => exact absurd (Or.inr (Or.inr (Or.inr (Or.inr ⟨h, h48, Or.inr hh⟩)))) hr
  generalize hl : seg s (fromB s i signed) (j - fromB s i signed) = l at *
  have hlen : l.length = j - fromB s i signed := by rw [← hl]; exact seg_len _ _ _ (by omega)
  have hnum : x = (val l : Int) := by rw [← hl]; exact e.num h18
  have hdig : Digs l := by rw [← hl]; exact e.seg_digs
  have hne : l ≠ [] := by intro h; rw [h] at hlen; simp at hlen; omega
  have hl0 : ∀ h : 0 < l.length, l[0] = s[fromB s i signed] := by
    intro h
    subst hl
    rw [seg_get _ _ _ 0 h (by omega)]
    rfl
  have hcan : Canon l (val l) := by
    refine ⟨hne, hdig, rfl, ?_⟩
    intro hh
    rw [List.head?_eq_getElem?, List.getElem?_eq_getElem (by omega)] at hh
    have h0 : l[0]'(by omega) = 48 := by simpa using hh
    have := hlead (by omega) (by rw [← hl0 (by omega), h0]; rfl)
    have h1 : l.length = 1 := by omega
    obtain ⟨c, rfl⟩ := List.length_eq_one_iff.1 h1
    simp at h0; rw [h0]
  refine ⟨?_, ⟨hjs, hst⟩, ?_, l, ?_, by omega, ?_⟩
  · unfold fromB at hle; split at hle <;> omega
  · intro hv
    cases signed with
    | true => rfl
    | false =>
      rw [if_neg (by rw [negB_false]; simp)] at hv
      omega
  · split
    · rw [hnum, Int.natAbs_neg, Int.natAbs_natCast]; exact hcan
    · rw [hnum, Int.natAbs_natCast]; exact hcan
  · by_cases hn : negB s i signed = true
    · have hf : fromB s i signed = i + 1 := by rw [fromB, if_pos hn]
      have hi : i < s.size := by omega
      have h45 : s[i] = 45 := by
        cases signed with
        | false => rw [negB_false] at hn; cases hn
        | true =>
          rw [negB_in hi, beq_iff_eq] at hn
          exact UInt8.toNat_inj.1 (by simp; omega)
      have hpos : 0 < val l := by
        cases l with
        | nil => exact absurd rfl hne
        | cons c r =>
          have hc := hdig.head
          have h0 := hl0 (by simp)
          simp only [List.getElem_cons_zero] at h0
          have : c.toNat ≠ 48 := by
            intro h48
            have := (hlead (by omega) (by rw [← h0]; omega)).2
            rw [this] at hn; cases hn
          have := canon_ge (c := c) (l := r) (by omega)
          have p : 0 < 10 ^ r.length := Nat.pos_of_ne_zero (by simp)
          omega
      rw [if_pos hn, fmtOf, if_pos (by omega)]
      have e1 : j - i = (j - fromB s i signed) + 1 := by omega
      rw [e1, ← hl]
      unfold seg
      have e2 : s.data.toList.drop i = 45 :: s.data.toList.drop (i + 1) := by
        rw [List.drop_eq_getElem_cons (by rw [Array.length_toList]; exact hi)]
        congr 1
      rw [e2, List.take_succ_cons, hf]
    · have hf : fromB s i signed = i := by rw [fromB, if_neg hn]
      rw [if_neg hn, fmtOf, if_neg (by omega), ← hl, hf]

theorem Acc.unique {s : ByteArray} {i : Nat} {st : Int} {signed : Bool} {v v' : Int} {k k' : Nat} (hst : ¬ (48 ≤ st ∧ st ≤ 57)) (h : Acc s i st signed v k) (h' : Acc s i st signed v' k') : v = v' ∧ k = k' := by
  obtain ⟨hn, l, hc, hl, hk, ⟨hks, hkst⟩, hb⟩ := h.parts
  obtain ⟨hn', l', hc', hl', hk', ⟨hks', hkst'⟩, hb'⟩ := h'.parts
  have hkk : k = k' := by
    rcases Nat.lt_trichotomy k k' with g | g | g
    · exfalso
      obtain ⟨hs, hx⟩ := hb' l.length (by omega)
      have hd := hc'.2.1 (l'[l.length]'(by omega)) (List.getElem_mem _)
      rw [← hx] at hd
      simp only [← hk] at hd
      omega
    · exact g
    · exfalso
      obtain ⟨hs, hx⟩ := hb l'.length (by omega)
      have hd := hc.2.1 (l[l'.length]'(by omega)) (List.getElem_mem _)
      rw [← hx] at hd
      simp only [← hk'] at hd
      omega
  have hll : l = l' := by
    apply List.ext_getElem (by omega)
    intro t h1 h2
    obtain ⟨_, hx⟩ := hb t h1
    obtain ⟨_, hx'⟩ := hb' t h2
    rw [← hx, ← hx']
  refine ⟨?_, hkk⟩
  have ha : v.natAbs = v'.natAbs := by rw [← hc.2.2.1, ← hc'.2.2.1, hll]
  rw [hn] at hn'
  have : (v < 0) ↔ (v' < 0) := by simpa using hn'
  omega

/-- what shortNumber answers -/
def SN (s : ByteArray) (i : Nat) (st : Int) (signed : Bool) (n : Int) (ok : Bool) (np : Int) : Prop :=
  (ok = true ∧ ∃ k : Nat, Acc s i st signed n k ∧ np = (k : Int) + 1) ∨ (ok = false ∧ n = 0 ∧ np = (i : Int) ∧ ∀ v k, ¬ Acc s i st signed v k)

theorem SN.unique {s : ByteArray} {i : Nat} {st : Int} {signed : Bool} {n n' : Int} {ok ok' : Bool} {np np' : Int} (hst : ¬ (48 ≤ st ∧ st ≤ 57)) (h : SN s i st signed n ok np) (h' : SN s i st signed n' ok' np') :
    ok = ok' ∧ n = n' ∧ np = np' := by
  rcases h with ⟨h1, k, h2, h3⟩ | ⟨h1, h2, h3, h4⟩ <;> rcases h' with ⟨g1, k', g2, g3⟩ | ⟨g1, g2, g3, g4⟩
  · obtain ⟨a, b⟩ := h2.unique hst g2
    subst b
    exact ⟨by rw [h1, g1], a, by rw [h3, g3]⟩
  · exact absurd h2 (g4 _ _)
  · exact absurd g2 (h4 _ _)
  · exact ⟨by rw [h1, g1], by rw [h2, g2], by rw [h3, g3]⟩
end Go.Proofs.Qxb6605330a.Plain
