/-
  PLAIN: WHAT IT IS TO BE THE NEAREST RUNG. A rung's number in units of 2^-1074; the rung nearest to a fraction p/q of such units, by its thresholds.
-/
import Ieee.Arith
namespace Go.Proofs.Qxb6604567a

/-- the number of a rung, in units of 2^-1074 -/
def vr (r : Nat) : Nat := if r < 4503599627370496 then r else (4503599627370496 + r % 4503599627370496) * 2 ^ (r / 4503599627370496 - 1)

/-- the rung of infinity -/
def infR : Nat := 9218868437227405312

theorem vr_at (E c : Nat) (hc : c ≤ 9007199254740992) (h : E = 0 ∨ 4503599627370496 ≤ c) : vr (E * 4503599627370496 + c) = c * 2 ^ E := by
  unfold vr
  by_cases h1 : c < 4503599627370496
  · have hE : E = 0 := by omega
    subst hE
    rw [if_pos (by omega)]
    simp
  · by_cases h2 : c = 9007199254740992
    · subst h2
      rw [if_neg (by omega)]
      have e1 : (E * 4503599627370496 + 9007199254740992) % 4503599627370496 = 0 := by omega
      have e2 : (E * 4503599627370496 + 9007199254740992) / 4503599627370496 - 1 = E + 1 := by omega
      rw [e1, e2, Nat.pow_succ]
      omega
    · rw [if_neg (by omega)]
      have e1 : (E * 4503599627370496 + c) % 4503599627370496 = c - 4503599627370496 := by omega
      have e2 : (E * 4503599627370496 + c) / 4503599627370496 - 1 = E := by omega
      have e3 : 4503599627370496 + (c - 4503599627370496) = c := by omega
      rw [e1, e2, e3]

/-- every rung from 1 on, taken apart -/
theorem rung_form (k : Nat) (hk : 1 ≤ k) : ∃ E c, k = E * 4503599627370496 + c ∧ 1 ≤ c ∧ c ≤ 9007199254740992 ∧ (E = 0 ∨ 4503599627370496 < c) := by
  refine ⟨(k - 1) / 4503599627370496 - 1, k - ((k - 1) / 4503599627370496 - 1) * 4503599627370496, ?_, ?_, ?_, ?_⟩ <;> omega

/-- twice the midpoint below rung k -/
def thr (k : Nat) : Nat := vr (k - 1) + vr k

theorem thr_at (E c : Nat) (h1 : 1 ≤ c) (hc : c ≤ 9007199254740992) (h : E = 0 ∨ 4503599627370496 < c) : thr (E * 4503599627370496 + c) = (2 * c - 1) * 2 ^ E := by
  unfold thr
  have e : E * 4503599627370496 + c - 1 = E * 4503599627370496 + (c - 1) := by omega
  rw [e, vr_at E c hc (by omega), vr_at E (c - 1) (by omega) (by omega), ← Nat.add_mul]
  congr 1
  omega

theorem vr_lt_succ (k : Nat) : vr k < vr (k + 1) := by
  obtain ⟨E, c, e, h1, hc, h⟩ := rung_form (k + 1) (by omega)
  have e' : k = E * 4503599627370496 + (c - 1) := by omega
  rw [e, vr_at E c hc (by omega), e', vr_at E (c - 1) (by omega) (by omega)]
  exact Nat.mul_lt_mul_of_pos_right (by omega) (Nat.two_pow_pos E)

theorem vr_mono {a b : Nat} (h : a ≤ b) : vr a ≤ vr b := by
  induction b with
  | zero => obtain rfl : a = 0 := by omega
            exact Nat.le_refl _
  | succ b ih =>
    by_cases e : a = b + 1
    · rw [e]; exact Nat.le_refl _
    · have := ih (by omega)
      have := vr_lt_succ b
      omega

theorem vr_strict {a b : Nat} (h : a < b) : vr a < vr b := Nat.lt_of_lt_of_le (vr_lt_succ a) (vr_mono h)

theorem vr_le_iff {a b : Nat} : vr a ≤ vr b ↔ a ≤ b := ⟨fun h => by
  rcases Nat.lt_or_ge b a with h1 | h1
  · have := vr_strict h1; omega
  · exact h1, vr_mono⟩

/-- r is the rung nearest to p/q (ties: the even one; beyond the greatest: infinity) -/
structure Near (r p q : Nat) : Prop where
  le : r ≤ infR
  iff : ∀ k, 1 ≤ k → k ≤ infR → (k ≤ r ↔ thr k * q < 2 * p ∨ (thr k * q = 2 * p ∧ k % 2 = 0))

theorem Near.mono {r s p q p' q' : Nat} (h : Near r p q) (g : Near s p' q') (hq : 0 < q) (hq' : 0 < q') (hle : p * q' ≤ p' * q) : r ≤ s := by
  rcases Nat.eq_zero_or_pos r with h0 | h0
  · omega
  · refine (g.iff r h0 h.le).2 ?_
    have := (h.iff r h0 h.le).1 (Nat.le_refl _)
    have e1 : thr r * q * q' = thr r * q' * q := by rw [Nat.mul_assoc, Nat.mul_comm q q', Nat.mul_assoc]
    rcases this with h1 | ⟨h1, h2⟩
    · left
      have h3 := Nat.mul_lt_mul_of_pos_right h1 hq'
      rw [e1, Nat.mul_assoc 2 p q'] at h3
      have h4 : thr r * q' * q < 2 * p' * q := by rw [Nat.mul_assoc 2 p' q]; omega
      exact Nat.lt_of_mul_lt_mul_right h4
    · have h3 : thr r * q * q' = 2 * p * q' := by rw [h1]
      rw [e1, Nat.mul_assoc 2 p q'] at h3
      have h4 : thr r * q' * q ≤ 2 * p' * q := by rw [Nat.mul_assoc 2 p' q]; omega
      have h5 : thr r * q' ≤ 2 * p' := Nat.le_of_mul_le_mul_right h4 hq
      rcases Nat.lt_or_eq_of_le h5 with h6 | h6
      · exact .inl h6
      · exact .inr ⟨h6, h2⟩

/-- what lies at or above a rung's number is rounded to that rung or above -/
theorem Near.ge {r p q k : Nat} (h : Near r p q) (hk : k ≤ infR) (hle : vr k * q ≤ p) (hq : 0 < q) : k ≤ r := by
  rcases Nat.eq_zero_or_pos k with h0 | h0
  · omega
  · refine (h.iff k h0 hk).2 (.inl ?_)
    unfold thr
    have h1 := vr_lt_succ (k - 1)
    rw [Nat.sub_add_cancel h0] at h1
    have h2 := Nat.mul_lt_mul_of_pos_right h1 hq
    rw [Nat.add_mul]
    omega

/-- .. at or below: to that rung or below -/
theorem Near.le_of {r p q k : Nat} (h : Near r p q) (hle : p ≤ vr k * q) (hq : 0 < q) : r ≤ k := by
  rcases Nat.lt_or_ge k r with h1 | h1
  · have hr := h.le
    have h2 := (h.iff (k + 1) (by omega) (by omega)).1 h1
    have h3 := Nat.mul_lt_mul_of_pos_right (vr_lt_succ k) hq
    unfold thr at h2
    rw [Nat.add_sub_cancel, Nat.add_mul] at h2
    omega
  · exact h1

theorem Near.exact {r k q : Nat} (h : Near r (vr k * q) q) (hk : k ≤ infR) (hq : 0 < q) : r = k :=
  Nat.le_antisymm (h.le_of (Nat.le_refl _) hq) (h.ge hk (Nat.le_refl _) hq)

/-- p/q may be written otherwise -/
theorem Near.congr {r p q p' q' : Nat} (h : Near r p q) (hq : 0 < q) (hq' : 0 < q') (e : p * q' = p' * q) : Near r p' q' := by
  refine ⟨h.le, fun k h1 h2 => ?_⟩
  rw [h.iff k h1 h2]
  have a1 : thr k * q < 2 * p ↔ thr k * q' < 2 * p' := by
    have e1 : thr k * q * q' = thr k * q' * q := by rw [Nat.mul_assoc, Nat.mul_comm q q', Nat.mul_assoc]
    constructor
    · intro h3
      have h4 := Nat.mul_lt_mul_of_pos_right h3 hq'
      rw [e1, Nat.mul_assoc 2 p q', e, ← Nat.mul_assoc] at h4
      exact Nat.lt_of_mul_lt_mul_right h4
    · intro h3
      have h4 := Nat.mul_lt_mul_of_pos_right h3 hq
      rw [← e1, Nat.mul_assoc 2 p' q, ← e, ← Nat.mul_assoc] at h4
      exact Nat.lt_of_mul_lt_mul_right h4
  have a2 : thr k * q = 2 * p ↔ thr k * q' = 2 * p' := by
    have e1 : thr k * q * q' = thr k * q' * q := by rw [Nat.mul_assoc, Nat.mul_comm q q', Nat.mul_assoc]
    constructor
    · intro h3
      have h4 : thr k * q * q' = 2 * p * q' := by rw [h3]
      rw [e1, Nat.mul_assoc 2 p q', e, ← Nat.mul_assoc] at h4
      exact Nat.eq_of_mul_eq_mul_right hq h4
    · intro h3
      have h4 : thr k * q' * q = 2 * p' * q := by rw [h3]
      rw [← e1, Nat.mul_assoc 2 p' q, ← e, ← Nat.mul_assoc] at h4
      exact Nat.eq_of_mul_eq_mul_right hq' h4
  rw [a1, a2]

/-! ### Rounding to a whole number -/

/-- n / 2^d, to nearest, ties to even -/
def rnd (n d : Nat) : Nat := n / 2 ^ d + (if 2 ^ d < 2 * (n % 2 ^ d) ∨ (2 ^ d = 2 * (n % 2 ^ d) ∧ n / 2 ^ d % 2 = 1) then 1 else 0)

theorem le_rnd (n d c : Nat) (hc : 1 ≤ c) : c ≤ rnd n d ↔ (2 * c - 1) * 2 ^ d < 2 * n ∨ ((2 * c - 1) * 2 ^ d = 2 * n ∧ c % 2 = 0) := by
  unfold rnd
  have hP := Nat.two_pow_pos d
  have hn := Nat.div_add_mod n (2 ^ d)
  have hb := Nat.mod_lt n hP
  generalize 2 ^ d = P at *
  generalize n / P = a at *
  generalize n % P = b at *
  rcases Nat.lt_trichotomy c (a + 1) with h | h | h
  · have h1 : (2 * c - 1) * P ≤ (2 * a - 1) * P := Nat.mul_le_mul_right _ (by omega)
    have h2 : (2 * a - 1) * P + P = 2 * (P * a) := by
      have : (2 * a - 1) * P + P = (2 * a - 1 + 1) * P := by rw [Nat.add_mul, Nat.one_mul]
      rw [this, show 2 * a - 1 + 1 = 2 * a by omega, Nat.mul_comm P a, Nat.mul_assoc]
    constructor
    · intro _
      left
      omega
    · intro _
      split <;> omega
  · subst h
    have h2 : (2 * (a + 1) - 1) * P = 2 * (P * a) + P := by
      rw [show 2 * (a + 1) - 1 = 2 * a + 1 by omega, Nat.add_mul, Nat.one_mul, Nat.mul_assoc, Nat.mul_comm a P]
    rw [h2]
    constructor
    · intro h3
      split at h3
      · rename_i h4; omega
      · omega
    · intro h3
      split
      · omega
      · rename_i h4; omega
  · have h1 : (2 * a + 3) * P ≤ (2 * c - 1) * P := Nat.mul_le_mul_right _ (by omega)
    have h2 : (2 * a + 3) * P = 2 * (P * a) + 3 * P := by rw [Nat.add_mul, Nat.mul_assoc, Nat.mul_comm a P]
    constructor
    · intro h3
      split at h3 <;> omega
    · intro h3
      omega

theorem cut_even (neg : Bool) (n drop : Nat) : Ieee.Toward.even.cut neg n drop = rnd n drop := by
  unfold Ieee.Toward.cut rnd
  simp only [Nat.one_shiftLeft]
  rcases Nat.le_total drop (n.log2 + 2) with h | h
  · rw [Nat.min_eq_left h]
    have hP := Nat.two_pow_pos drop
    generalize 2 ^ drop = P at *
    congr 1
    by_cases h1 : P < 2 * (n % P)
    · simp [h1]
    · by_cases h2 : P = 2 * (n % P)
      · by_cases h3 : n / P % 2 = 1
        · rw [if_pos (.inr ⟨h2, h3⟩)]
          simp [h3, ← h2]
        · rw [if_neg (by omega)]
          simp [h1, h3]
      · rw [if_neg (by omega)]
        simp [h1, h2]
  · rw [Nat.min_eq_right h]
    have hl : n < 2 ^ (n.log2 + 1) := Nat.lt_log2_self
    have e : 2 ^ (n.log2 + 2) = 2 * 2 ^ (n.log2 + 1) := by rw [Nat.pow_succ, Nat.mul_comm]
    have hP : 2 ^ (n.log2 + 2) ≤ 2 ^ drop := Nat.pow_le_pow_right (by decide) h
    have a1 : n / 2 ^ (n.log2 + 2) = 0 := Nat.div_eq_of_lt (by omega)
    have a2 : n % 2 ^ (n.log2 + 2) = n := Nat.mod_eq_of_lt (by omega)
    have b1 : n / 2 ^ drop = 0 := Nat.div_eq_of_lt (by omega)
    have b2 : n % 2 ^ drop = n := Nat.mod_eq_of_lt (by omega)
    rw [a1, a2, b1, b2]
    rw [if_neg (by omega)]
    have c1 : ¬ 2 ^ (n.log2 + 2) < 2 * n := by omega
    simp [c1]

end Go.Proofs.Qxb6604567a
