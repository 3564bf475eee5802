/-
  PLAIN: the model's 'nearest' is the nearest rung.
-/
import Derived.Test.Qxb6604567aNear
namespace Go.Proofs.Qxb6604567a
open Ieee

theorem cancel_lt {X G D p n : Nat} (hG : 0 < G) (hD : 0 < D) (e : p * D = n * G) : X * G < 2 * p ↔ X * D < 2 * n := by
  have e1 : X * G * D = X * D * G := by rw [Nat.mul_assoc, Nat.mul_comm G D, Nat.mul_assoc]
  constructor
  · intro h
    have := Nat.mul_lt_mul_of_pos_right h hD
    rw [e1, Nat.mul_assoc 2 p D, e, ← Nat.mul_assoc] at this
    exact Nat.lt_of_mul_lt_mul_right this
  · intro h
    have := Nat.mul_lt_mul_of_pos_right h hG
    rw [← e1, Nat.mul_assoc 2 n G, ← e, ← Nat.mul_assoc] at this
    exact Nat.lt_of_mul_lt_mul_right this

theorem cancel_eq {X G D p n : Nat} (hG : 0 < G) (hD : 0 < D) (e : p * D = n * G) : X * G = 2 * p ↔ X * D = 2 * n := by
  have e1 : X * G * D = X * D * G := by rw [Nat.mul_assoc, Nat.mul_comm G D, Nat.mul_assoc]
  constructor
  · intro h
    have : X * G * D = 2 * p * D := by rw [h]
    rw [e1, Nat.mul_assoc 2 p D, e, ← Nat.mul_assoc] at this
    exact Nat.eq_of_mul_eq_mul_right hG this
  · intro h
    have : X * D * G = 2 * n * G := by rw [h]
    rw [← e1, Nat.mul_assoc 2 n G, ← e, ← Nat.mul_assoc] at this
    exact Nat.eq_of_mul_eq_mul_right hD this

theorem rnd_ge {n d m : Nat} (h : m * 2 ^ d ≤ n) : m ≤ rnd n d := by
  unfold rnd
  exact Nat.le_trans ((Nat.le_div_iff_mul_le (Nat.two_pow_pos d)).2 h) (Nat.le_add_right _ _)

theorem rnd_le {n d m : Nat} (h : n < m * 2 ^ d) : rnd n d ≤ m := by
  have h1 : n / 2 ^ d < m := (Nat.div_lt_iff_lt_mul (Nat.two_pow_pos d)).2 h
  unfold rnd
  split <;> omega

/-- the heart: n/2^d units of 2^E, with at most 53 digits ahead of the point -/
theorem near_core (E n d p q : Nat) (hq : 0 < q) (h1 : n < 9007199254740992 * 2 ^ d) (h2 : E = 0 ∨ 4503599627370496 * 2 ^ d ≤ n) (h3 : p * 2 ^ d = n * (2 ^ E * q)) :
    Near (min (E * 4503599627370496 + rnd n d) infR) p q := by
  have hD := Nat.two_pow_pos d
  have hE := Nat.two_pow_pos E
  have hG : 0 < 2 ^ E * q := Nat.mul_pos hE hq
  have r1 : rnd n d ≤ 9007199254740992 := rnd_le h1
  have r2 : E = 0 ∨ 4503599627370496 ≤ rnd n d := by
    rcases h2 with h | h
    · exact .inl h
    · exact .inr (rnd_ge h)
  refine ⟨Nat.min_le_right _ _, fun k hk hk' => ?_⟩
  rw [Nat.le_min, and_iff_left hk']
  obtain ⟨F, c, rfl, c1, c2, c3⟩ := rung_form k hk
  rw [thr_at F c c1 c2 c3]
  rcases Nat.lt_trichotomy F E with h | h | h
  · -- below
    have hn : 4503599627370496 * 2 ^ d ≤ n := by omega
    have hr : 4503599627370496 ≤ rnd n d := by omega
    have hp : 4503599627370496 * (2 ^ E * q) ≤ p := by
      have := Nat.mul_le_mul_right (2 ^ E * q) hn
      rw [← h3, Nat.mul_assoc, Nat.mul_comm (2 ^ d), ← Nat.mul_assoc] at this
      exact Nat.le_of_mul_le_mul_right this hD
    have hF : 2 ^ F * 2 ≤ 2 ^ E := by
      rw [← Nat.pow_succ]
      exact Nat.pow_le_pow_right (by decide) h
    have hT : (2 * c - 1) * 2 ^ F < 9007199254740992 * 2 ^ E := by
      have a1 : (2 * c - 1) * 2 ^ F ≤ 18014398509481983 * 2 ^ F := Nat.mul_le_mul_right _ (by omega)
      have hF0 := Nat.two_pow_pos F
      generalize 2 ^ F = f at *
      generalize 2 ^ E = e at *
      omega
    have hT2 := Nat.mul_lt_mul_of_pos_right hT hq
    rw [Nat.mul_assoc 9007199254740992] at hT2
    constructor
    · intro _
      left
      omega
    · intro _
      omega
  · subst h
    have a1 := cancel_lt (X := 2 * c - 1) hG hD h3
    have a2 := cancel_eq (X := 2 * c - 1) hG hD h3
    rw [← Nat.mul_assoc] at a1 a2
    rw [a1, a2]
    have a3 := le_rnd n d c c1
    have a4 : (F * 4503599627370496 + c) % 2 = c % 2 := by omega
    rw [a4, ← a3]
    omega
  · -- above
    have hp : p < 9007199254740992 * (2 ^ E * q) := by
      have := Nat.mul_lt_mul_of_pos_right h1 hG
      rw [← h3, Nat.mul_assoc, Nat.mul_comm (2 ^ d), ← Nat.mul_assoc] at this
      exact Nat.lt_of_mul_lt_mul_right this
    have hF : 2 ^ E * 2 ≤ 2 ^ F := by
      rw [← Nat.pow_succ]
      exact Nat.pow_le_pow_right (by decide) h
    have hT : 18014398509481984 * 2 ^ E ≤ (2 * c - 1) * 2 ^ F := by
      have a1 : 9007199254740993 * 2 ^ F ≤ (2 * c - 1) * 2 ^ F := Nat.mul_le_mul_right _ (by omega)
      generalize 2 ^ F = f at *
      generalize 2 ^ E = e at *
      omega
    have hT2 := Nat.mul_le_mul_right q hT
    rw [Nat.mul_assoc 18014398509481984] at hT2
    constructor
    · intro _
      omega
    · intro _
      omega

theorem near_number (mag : Nat) (place : Int) (hm : 0 < mag) :
    ∃ r, Near r (mag * 2 ^ (place + 1074).toNat) (2 ^ (-(place + 1074)).toNat) ∧ ∀ neg, double.nearest neg mag place = double.word neg r := by
  have l1 : 2 ^ mag.log2 ≤ mag := Nat.log2_self_le (by omega)
  have l2 : mag < 2 ^ (mag.log2 + 1) := Nat.lt_log2_self
  have hlast : ∃ last : Int, last = max (place + mag.log2 - 52) (-1074) := ⟨_, rfl⟩
  obtain ⟨last, hlast⟩ := hlast
  have hL : (-1074 ≤ last ∧ place + mag.log2 - 52 ≤ last) ∧ (last = -1074 ∨ last = place + mag.log2 - 52) := by omega
  refine ⟨min ((last + 1074).toNat * 4503599627370496 + rnd (mag * 2 ^ (place - last).toNat) (last - place).toNat) infR, near_core _ _ _ _ _ (Nat.two_pow_pos _) ?_ ?_ ?_, fun neg => ?_⟩
  · have a1 : mag * 2 ^ (place - last).toNat < 2 ^ (mag.log2 + 1) * 2 ^ (place - last).toNat := Nat.mul_lt_mul_of_pos_right l2 (Nat.two_pow_pos _)
    have a2 : 2 ^ (mag.log2 + 1) * 2 ^ (place - last).toNat ≤ 2 ^ 53 * 2 ^ (last - place).toNat := by
      rw [← Nat.pow_add, ← Nat.pow_add]
      exact Nat.pow_le_pow_right (by decide) (by omega)
    have e : 2 ^ 53 = 9007199254740992 := by decide
    rw [e] at a2
    omega
  · by_cases h : last = -1074
    · left; omega
    · right
      have a1 : 2 ^ mag.log2 * 2 ^ (place - last).toNat ≤ mag * 2 ^ (place - last).toNat := Nat.mul_le_mul_right _ l1
      have a2 : 2 ^ mag.log2 * 2 ^ (place - last).toNat = 2 ^ 52 * 2 ^ (last - place).toNat := by
        rw [← Nat.pow_add, ← Nat.pow_add]
        congr 1
        omega
      have e : 2 ^ 52 = 4503599627370496 := by decide
      rw [e] at a2
      omega
  · rw [Nat.mul_assoc, Nat.mul_assoc, ← Nat.pow_add, ← Nat.pow_add, ← Nat.pow_add]
    congr 2
    omega
  · unfold Format.nearest
    rw [if_neg (by omega)]
    simp only [cut_even, Nat.shiftLeft_eq]
    have e1 : double.fractionBits = 52 := rfl
    have e2 : double.leastPlace = -1074 := by decide
    have e3 : double.binade = 4503599627370496 := by decide
    have e4 : double.infRung = infR := by decide
    rw [e1, e2, e3, e4, ← show last = max (place + mag.log2 - (52 : Nat)) (-1074) from hlast]
    have e5 : (last - -1074).toNat = (last + 1074).toNat := by omega
    rw [e5]

/-! ### The quotient, with one digit that tells whether anything is left over -/

theorem two_pows (x y : Nat) : 2 ^ y ∣ 2 ^ x ∨ 2 * 2 ^ x ≤ 2 ^ y := by
  rcases Nat.lt_or_ge x y with h | h
  · right
    rw [Nat.mul_comm, ← Nat.pow_succ]
    exact Nat.pow_le_pow_right (by decide) h
  · left
    exact Nat.pow_dvd_pow 2 h

/-- a midpoint does not lie strictly between 4a and 4a + 4 units, if a has 54 digits -/
theorem mid_out (k u v a : Nat) (hk : 1 ≤ k) (ha : 9007199254740992 ≤ a) : thr k * 2 ^ v ≤ 4 * a * 2 ^ u ∨ (4 * a + 4) * 2 ^ u ≤ thr k * 2 ^ v := by
  obtain ⟨F, c, rfl, c1, c2, c3⟩ := rung_form k hk
  rw [thr_at F c c1 c2 c3, Nat.mul_assoc, ← Nat.pow_add]
  have e4 : 4 * 2 ^ u = 2 ^ (u + 2) := by rw [Nat.pow_add, Nat.mul_comm]
  rcases two_pows (F + v) (u + 2) with ⟨t, ht⟩ | h
  · rw [ht, ← e4]
    have e1 : (2 * c - 1) * (4 * 2 ^ u * t) = (4 * ((2 * c - 1) * t)) * 2 ^ u := by
      rw [Nat.mul_assoc 4, Nat.mul_left_comm, Nat.mul_assoc 4]
      congr 1
      rw [Nat.mul_comm (2 ^ u) t, ← Nat.mul_assoc]
    rw [e1]
    rcases Nat.lt_or_ge a ((2 * c - 1) * t) with h | h
    · right
      exact Nat.mul_le_mul_right _ (by omega)
    · left
      exact Nat.mul_le_mul_right _ (by omega)
  · left
    rw [← e4] at h
    have h1 : (2 * c - 1) * 2 ^ (F + v) ≤ 18014398509481983 * 2 ^ (F + v) := Nat.mul_le_mul_right _ (by omega)
    have h2 : 36028797018963968 * 2 ^ u ≤ 4 * a * 2 ^ u := Nat.mul_le_mul_right _ (by omega)
    generalize 2 ^ (F + v) = X at *
    generalize 2 ^ u = Y at *
    omega

theorem near_sticky {r D n u v : Nat} (hn : 0 < n) (ha : 9007199254740992 ≤ D / n) (h : Near r ((2 * (D / n) + (D % n != 0).toNat) * 2 ^ u) (2 ^ v)) : Near r (2 * D * 2 ^ u) (n * 2 ^ v) := by
  have hD := Nat.div_add_mod D n
  have hb := Nat.mod_lt D hn
  have hV := Nat.two_pow_pos v
  have hU := Nat.two_pow_pos u
  by_cases h0 : D % n = 0
  · have e : (D % n != 0) = false := by simp [h0]
    rw [e] at h
    refine h.congr hV (Nat.mul_pos hn hV) ?_
    rw [h0, Nat.add_zero] at hD
    simp only [Bool.toNat_false, Nat.add_zero]
    rw [show 2 * D = 2 * (n * (D / n)) by rw [hD]]
    generalize D / n = a
    ac_rfl
  · have e : (D % n != 0) = true := by simp [h0]
    rw [e] at h
    refine ⟨h.le, fun k hk hk' => ?_⟩
    rw [h.iff k hk hk']
    generalize D / n = a at *
    generalize D % n = b at *
    simp only [Bool.toNat_true]
    have e1 : 2 * ((2 * a + 1) * 2 ^ u) = (4 * a + 2) * 2 ^ u := by rw [← Nat.mul_assoc]; congr 1; omega
    have e2 : 2 * (2 * D * 2 ^ u) = 4 * D * 2 ^ u := by rw [← Nat.mul_assoc]; congr 1; omega
    have e3 : thr k * (n * 2 ^ v) = thr k * 2 ^ v * n := by ac_rfl
    rw [e1, e2, e3]
    have h4 : (4 * a + 2) * 2 ^ u = 4 * a * 2 ^ u + 2 * 2 ^ u := Nat.add_mul _ _ _
    have h5 : (4 * a + 4) * 2 ^ u = 4 * a * 2 ^ u + 4 * 2 ^ u := Nat.add_mul _ _ _
    rcases mid_out k u v a hk ha with h1 | h1
    · have h2 := Nat.mul_le_mul_right n h1
      have h3 : 4 * a * 2 ^ u * n < 4 * D * 2 ^ u := by
        have : 4 * a * 2 ^ u * n = 4 * (n * a) * 2 ^ u := by ac_rfl
        rw [this]
        exact Nat.mul_lt_mul_of_pos_right (by omega) hU
      constructor
      · intro _; left; omega
      · intro _; left; omega
    · have h2 := Nat.mul_le_mul_right n h1
      have h3 : 4 * D * 2 ^ u < (4 * a + 4) * 2 ^ u * n := by
        have : (4 * a + 4) * 2 ^ u * n = (n * (4 * a + 4)) * 2 ^ u := by ac_rfl
        rw [this]
        refine Nat.mul_lt_mul_of_pos_right ?_ hU
        have : n * (4 * a + 4) = 4 * (n * a) + 4 * n := by rw [Nat.mul_add, Nat.mul_left_comm]; omega
        omega
      constructor
      · intro h6; omega
      · intro h6; omega

end Go.Proofs.Qxb6604567a
