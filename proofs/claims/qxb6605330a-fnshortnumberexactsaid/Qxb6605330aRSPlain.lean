/- readSigned and modelShortNumber: the plain part. -/
import Derived.Test.Qxb6605330aShortPlain
namespace Go.Proofs.Qxb6605330a.Plain

/-- the sign that readSigned sees, and where the digits begin -/
def Sgn (T : ByteArray) (neg : Bool) (start : Nat) : Prop :=
  (neg = true ∧ start = 1 ∧ ∃ h : 0 < T.size, (T[0]'h).toNat = 45) ∨ (neg = false ∧ start = 0 ∧ ∃ h : 0 < T.size, (T[0]'h).toNat ≠ 45)

/-- what readSigned owes: it reads every canonical text -/
def Reads (T : ByteArray) (v : Int) (ok : Bool) : Prop :=
  -1000000000000000000 < v ∧ v < 1000000000000000000 ∧ ∀ (x : Int) (l : List UInt8), Canon l x.natAbs → l.length ≤ 18 → T.data.toList = fmtOf x l → ok = true ∧ v = x

theorem list_get0 {T : ByteArray} {L : List UInt8} (hT : T.data.toList = L) (h : 0 < T.size) (h2 : 0 < L.length) : T[0] = L[0] := by
  subst hT; rfl

theorem fmtOf_ne {x : Int} {l : List UInt8} (hl : l ≠ []) : fmtOf x l ≠ [] := by
  unfold fmtOf; split
  · simp
  · exact hl

theorem sgn_parts {T : ByteArray} {neg : Bool} {start : Nat} (h : Sgn T neg start) {x : Int} {l : List UInt8} (hc : Canon l x.natAbs) (hT : T.data.toList = fmtOf x l) :
    neg = decide (x < 0) ∧ T.data.toList.drop start = l := by
  have hlp : 0 < l.length := List.length_pos_iff.2 hc.1
  by_cases hx : x < 0
  · have e : fmtOf x l = 45 :: l := by rw [fmtOf, if_pos hx]
    rcases h with ⟨rfl, rfl, h, h45⟩ | ⟨rfl, rfl, h, h45⟩
    · refine ⟨by simp [hx], ?_⟩
      rw [hT, e]; rfl
    · exfalso
      rw [list_get0 (hT.trans e) h (by simp)] at h45
      exact h45 rfl
  · have e : fmtOf x l = l := by rw [fmtOf, if_neg hx]
    have hd := hc.2.1 l[0] (List.getElem_mem _)
    rcases h with ⟨rfl, rfl, h, h45⟩ | ⟨rfl, rfl, h, h45⟩
    · exfalso
      rw [list_get0 (hT.trans e) h hlp] at h45
      omega
    · refine ⟨by simp [hx], ?_⟩
      rw [hT, e]; rfl

theorem reads_no {T : ByteArray} (h : ∀ (x : Int) (l : List UInt8), Canon l x.natAbs → l.length ≤ 18 → T.data.toList = fmtOf x l → False) : Reads T 0 false :=
  ⟨by omega, by omega, fun x l h1 h2 h3 => (h x l h1 h2 h3).elim⟩

theorem reads_empty {T : ByteArray} (h : T.size = 0) : Reads T 0 false := by
  refine reads_no fun x l h1 h2 h3 => ?_
  have : T.data.toList.length = T.size := Array.length_toList
  rw [h3, h] at this
  exact fmtOf_ne h1.1 (List.length_eq_zero_iff.1 this)

theorem reads_len {T : ByteArray} {neg : Bool} {start : Nat} (hs : Sgn T neg start) (h : T.size - start = 0 ∨ 18 < T.size - start) : Reads T 0 false := by
  refine reads_no fun x l h1 h2 h3 => ?_
  have e : T.data.toList.length = T.size := Array.length_toList
  have hd := (sgn_parts hs h1 h3).2
  have hl : l.length = T.size - start := by rw [← hd, List.length_drop, e]
  have hlp : 0 < l.length := List.length_pos_iff.2 h1.1
  omega

theorem reads_bad {T : ByteArray} {neg : Bool} {start : Nat} (hs : Sgn T neg start) (j : Nat) (hj : j < T.size) (hsj : start ≤ j) (h : ¬ (48 ≤ T[j].toNat ∧ T[j].toNat ≤ 57)) : Reads T 0 false := by
  refine reads_no fun x l h1 h2 h3 => h ?_
  have e : T.data.toList.length = T.size := Array.length_toList
  have hd := (sgn_parts hs h1 h3).2
  have hm : T[j] ∈ T.data.toList.drop start := by
    rw [List.mem_iff_getElem]
    refine ⟨j - start, by rw [List.length_drop]; omega, ?_⟩
    rw [List.getElem_drop]
    have : start + (j - start) = j := by omega
    simp only [this]
    rfl
  rw [hd] at hm
  exact h1.2.1 _ hm

theorem reads_yes {T : ByteArray} {neg : Bool} {start : Nat} (hs : Sgn T neg start) (hd : Digs (T.data.toList.drop start)) (h18 : T.size - start ≤ 18) :
    Reads T (if neg = true then -(val (T.data.toList.drop start) : Int) else (val (T.data.toList.drop start) : Int)) true := by
  have e : T.data.toList.length = T.size := Array.length_toList
  have hlt := val_lt _ hd
  have h3 : 10 ^ (T.data.toList.drop start).length ≤ 10 ^ 18 := Nat.pow_le_pow_right (by omega) (by rw [List.length_drop]; omega)
  refine ⟨by split <;> omega, by split <;> omega, ?_⟩
  intro x l h1 h2 h3
  obtain ⟨hn, hdr⟩ := sgn_parts hs h1 h3
  refine ⟨rfl, ?_⟩
  have hv : val l = x.natAbs := h1.2.2.1
  rw [hdr, hv, hn]
  by_cases hx : x < 0
  · rw [if_pos (by simpa using hx)]; omega
  · rw [if_neg (by simpa using hx)]; omega

/-- the text ahead of the stop byte holds no stop byte -/
theorem Acc.clean {s : ByteArray} {i : Nat} {st : Int} {signed : Bool} {v : Int} {k : Nat} (h : Acc s i st signed v k) (hst : ¬ (48 ≤ st ∧ st ≤ 57)) (h45 : st ≠ 45) (p : Nat) (hp : p < s.size) (h1 : i ≤ p) (h2 : p < k) : (s[p].toNat : Int) ≠ st := by
  obtain ⟨hik, ⟨hk, _⟩, _, l, hc, _, hseg⟩ := h
  have hlen : (seg s i (k - i)).length = k - i := seg_len s i (k - i) (by omega)
  have hm : s[p] ∈ seg s i (k - i) := by
    rw [List.mem_iff_getElem]
    refine ⟨p - i, by omega, ?_⟩
    rw [seg_get _ _ _ _ _ (by omega)]
    congr 1; omega
  rw [hseg] at hm
  have hd : s[p].toNat = 45 ∨ (48 ≤ s[p].toNat ∧ s[p].toNat ≤ 57) := by
    unfold fmtOf at hm
    split at hm
    · rcases List.mem_cons.1 hm with e | e
      · left; rw [e]; rfl
      · right; exact hc.2.1 _ e
    · right; exact hc.2.1 _ hm
  omega

/-- the first stop byte at or behind i -/
def FirstAt (s : ByteArray) (i : Nat) (st : Int) (k : Nat) : Prop :=
  i ≤ k ∧ (∃ h : k < s.size, ((s[k]'h).toNat : Int) = st) ∧ ∀ p (h : p < s.size), i ≤ p → p < k → (s[p].toNat : Int) ≠ st

theorem Acc.first {s : ByteArray} {i : Nat} {st : Int} {signed : Bool} {v : Int} {k k' : Nat} (h : Acc s i st signed v k) (hst : ¬ (48 ≤ st ∧ st ≤ 57)) (h45 : st ≠ 45) (f : FirstAt s i st k') : k = k' := by
  obtain ⟨h1, ⟨hk', e'⟩, h3⟩ := f
  have hcl := h.clean hst h45
  obtain ⟨hik, ⟨hk, e⟩, _⟩ := h
  rcases Nat.lt_trichotomy k k' with g | g | g
  · exact absurd e (h3 k hk hik g)
  · exact g
  · exact absurd e' (hcl k' hk' h1 g)

theorem acc_none {s : ByteArray} {i : Nat} {st : Int} {signed : Bool} (h : ∀ p (h : p < s.size), i ≤ p → (s[p].toNat : Int) ≠ st) (v : Int) (k : Nat) : ¬ Acc s i st signed v k := by
  rintro ⟨hik, ⟨hk, e⟩, _⟩
  exact h k hk hik e

theorem tok_list (s : ByteArray) (i k : Nat) : (s.extract i k).data.toList = seg s i (k - i) := by
  rw [ByteArray.data_extract, Array.toList_extract, List.extract_eq_take_drop]; rfl

/-- what the model answers, out of what readSigned and fmtInt said -/
theorem model_no {s : ByteArray} {i : Nat} {st : Int} {signed : Bool} {k : Nat} {v : Int} {ok : Bool} (hst : ¬ (48 ≤ st ∧ st ≤ 57)) (h45 : st ≠ 45) (f : FirstAt s i st k) (r : Reads (s.extract i k) v ok)
    (h : ok = false ∨ (v < 0 ∧ signed = false) ∨ ∃ l, Canon l v.natAbs ∧ fmtOf v l ≠ (s.extract i k).data.toList) : SN s i st signed 0 false i := by
  refine Or.inr ⟨rfl, rfl, rfl, ?_⟩
  intro v' k' ha
  have hk := ha.first hst h45 f
  subst hk
  have hsg := ha.2.2.1
  obtain ⟨_, _, _, l, hc, hl, hseg⟩ := ha
  obtain ⟨hok, hv⟩ := r.2.2 v' l hc hl (by rw [tok_list]; exact hseg)
  subst hv
  rcases h with h | ⟨h1, h2⟩ | ⟨l', hc', hne⟩
  · rw [hok] at h; cases h
  · rw [hsg h1] at h2; cases h2
  · apply hne
    rw [canon_unique hc' hc, tok_list, hseg]

theorem model_yes {s : ByteArray} {i : Nat} {st : Int} {signed : Bool} {k : Nat} {v : Int} {ok : Bool} (f : FirstAt s i st k) (r : Reads (s.extract i k) v ok) (hsg : v < 0 → signed = true) (l : List UInt8)
    (hc : Canon l v.natAbs) (he : fmtOf v l = (s.extract i k).data.toList) : SN s i st signed v true ((k : Int) + 1) := by
  refine Or.inl ⟨rfl, k, ⟨f.1, f.2.1, hsg, l, hc, ?_, ?_⟩, rfl⟩
  · exact canon_len hc (by have := r.1; have := r.2.1; omega)
  · rw [he, tok_list]
end Go.Proofs.Qxb6605330a.Plain
