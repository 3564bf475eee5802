/-
  infinite quotients and products; a number made whole; the wait: the plain law.
-/
import Derived.Test.Qxb6604567aShort
namespace Go.Proofs.Qxb6604567a
open Ieee

theorem rg_inf_read {x : Nat} (h : Rg x infR) : double.read x = .infinity false := by
  unfold Rg at h
  generalize double.read x = d at *
  cases d with
  | nan => exact h.elim
  | infinity s => rw [h.1]
  | number s m i => exact absurd h.1 (by omega)

theorem rg_div_any {x y a b : Nat} (h : Rg x a) (g : Rg y b) (hb : b < infR) (hb0 : 0 < b) : ∃ z r, double.div x y = some z ∧ Rg z r ∧ (a < infR → Near r (vr a * one) (vr b)) ∧ (a = infR → r = infR) := by
  rcases Nat.eq_or_lt_of_le h.le with e | hlt
  · subst e
    obtain ⟨m, i, hrd, hm⟩ := rg_pos_read g hb0 hb
    refine ⟨double.word false infR, infR, ?_, rg_word _ _ (Nat.le_refl _) (fun h => by cases h), fun h => by omega, fun _ => rfl⟩
    unfold Format.div
    rw [rg_inf_read h, hrd]
    rfl
  · obtain ⟨z, r, h1, h2, h3⟩ := rg_div h g hlt hb hb0
    exact ⟨z, r, h1, h2, fun _ => h3, fun h => by omega⟩

theorem rg_mul_any {x y a b : Nat} (h : Rg x a) (g : Rg y b) (hb : b < infR) (hb0 : 0 < b) : ∃ z r, double.mul x y = some z ∧ Rg z r ∧ (a < infR → Near r (vr a * vr b) one) ∧ (a = infR → r = infR) := by
  rcases Nat.eq_or_lt_of_le h.le with e | hlt
  · subst e
    obtain ⟨m, i, hrd, hm⟩ := rg_pos_read g hb0 hb
    refine ⟨double.word false infR, infR, ?_, rg_word _ _ (Nat.le_refl _) (fun h => by cases h), fun h => by omega, fun _ => rfl⟩
    unfold Format.mul
    rw [rg_inf_read h, hrd]
    simp only [Datum.product]
    rw [if_neg (by omega)]
    rfl
  · obtain ⟨z, r, h1, h2, h3⟩ := rg_mul h g hlt hb
    exact ⟨z, r, h1, h2, fun _ => h3, fun h => by omega⟩

/-- the number made whole, upwards -/
theorem cut_up (neg : Bool) (n drop : Nat) (hn : neg = true → n = 0) : n ≤ Toward.up.cut neg n drop * 2 ^ drop ∧ Toward.up.cut neg n drop * 2 ^ drop < n + 2 ^ drop := by
  have hp : 0 < 2 ^ drop := Nat.two_pow_pos _
  unfold Toward.cut
  simp only [Nat.shiftLeft_eq, Nat.one_mul]
  rcases Nat.eq_zero_or_pos n with e | e
  · subst e
    simp [hp]
  · obtain rfl : neg = false := by
      cases neg with
      | true => have := hn rfl; omega
      | false => rfl
    by_cases hd : drop ≤ n.log2 + 2
    · rw [Nat.min_eq_left hd]
      have h1 := Nat.div_add_mod n (2 ^ drop)
      have h2 := Nat.mod_lt n hp
      by_cases hr : n % 2 ^ drop = 0
      · simp only [hr, bne_self_eq_false, Bool.and_false, Bool.toNat_false, Nat.add_zero]
        rw [Nat.mul_comm]
        omega
      · have : (n % 2 ^ drop != 0) = true := by simp [hr]
        simp only [this, Bool.not_false, Bool.and_self, Bool.toNat_true]
        rw [Nat.add_mul, Nat.one_mul, Nat.mul_comm (n / 2 ^ drop)]
        omega
    · rw [Nat.min_eq_right (by omega)]
      have l2 : n < 2 ^ (n.log2 + 1) := Nat.lt_log2_self
      have l3 : 2 ^ (n.log2 + 1) ≤ 2 ^ (n.log2 + 2) := Nat.pow_le_pow_right (by decide) (by omega)
      have l4 : 2 ^ (n.log2 + 2) ≤ 2 ^ drop := Nat.pow_le_pow_right (by decide) (by omega)
      rw [Nat.div_eq_of_lt (by omega), Nat.mod_eq_of_lt (by omega)]
      have : (n != 0) = true := by simp; omega
      simp only [this, Bool.not_false, Bool.and_self, Bool.toNat_true]
      omega

theorem cut_zero (neg : Bool) (n drop : Nat) : Toward.zero.cut neg n drop = n / 2 ^ drop := by
  unfold Toward.cut
  simp only [Nat.shiftLeft_eq, Nat.one_mul, Bool.toNat_false, Nat.add_zero]
  by_cases hd : drop ≤ n.log2 + 2
  · rw [Nat.min_eq_left hd]
  · rw [Nat.min_eq_right (by omega)]
    have l2 : n < 2 ^ (n.log2 + 1) := Nat.lt_log2_self
    have l3 : 2 ^ (n.log2 + 1) ≤ 2 ^ (n.log2 + 2) := Nat.pow_le_pow_right (by decide) (by omega)
    have l4 : 2 ^ (n.log2 + 2) ≤ 2 ^ drop := Nat.pow_le_pow_right (by decide) (by omega)
    rw [Nat.div_eq_of_lt (by omega), Nat.div_eq_of_lt (by omega)]

theorem place_eq {i : Int} (hi : -1074 ≤ i) (m v : Nat) (hv : v = m * 2 ^ (i + 1074).toNat) : v * 2 ^ (-i).toNat = m * 2 ^ i.toNat * one := by
  obtain ⟨u, hu⟩ : ∃ u : Nat, u = 1074 := ⟨_, rfl⟩
  rw [hv, one_eq u hu, Nat.mul_assoc, Nat.mul_assoc, ← Nat.pow_add, ← Nat.pow_add]
  congr 2
  omega

/-- M is rung χ's number, made whole upwards -/
structure IsCeil (χ M : Nat) : Prop where
  le : vr χ ≤ M * one
  lt : M * one < vr χ + one

def r52 : Nat := 4841369599423283200
def r63 : Nat := 4890909195324358656

theorem vr_r52 : vr r52 = 4503599627370496 * one := by
  have := vr_shift oneR 52 (by decide)
  rw [show oneR + 52 * 4503599627370496 = r52 by decide, vr_one, show 2 ^ 52 = 4503599627370496 by decide] at this
  exact this

theorem vr_r63 : vr r63 = 9223372036854775808 * one := by
  have := vr_shift oneR 63 (by decide)
  rw [show oneR + 63 * 4503599627370496 = r63 by decide, vr_one, show 2 ^ 63 = 9223372036854775808 by decide] at this
  exact this

theorem whole {χ : Nat} (h : r52 ≤ χ) : ∃ k, vr χ = k * one := by
  obtain ⟨u, hu⟩ : ∃ u : Nat, u = 1074 := ⟨_, rfl⟩
  have h1 : 1075 ≤ χ / 4503599627370496 := (Nat.le_div_iff_mul_le (by decide)).2 (by unfold r52 at h; omega)
  refine ⟨(4503599627370496 + χ % 4503599627370496) * 2 ^ (χ / 4503599627370496 - 1 - u), ?_⟩
  unfold vr
  rw [if_neg (by unfold r52 at h; omega), one_eq u hu, Nat.mul_assoc, ← Nat.pow_add]
  congr 2
  omega

theorem IsCeil.whole {χ M : Nat} (h : IsCeil χ M) (h1 : r52 ≤ χ) : vr χ = M * one := by
  obtain ⟨k, hk⟩ := Qxb6604567a.whole h1
  have a := h.le
  have b := h.lt
  rw [hk] at a b ⊢
  have c : k ≤ M := Nat.le_of_mul_le_mul_right a one_pos
  have d : M < k + 1 := by
    rw [← Nat.succ_mul] at b
    exact Nat.lt_of_mul_lt_mul_right b
  rw [show k = M by omega]

theorem IsCeil.small {χ M : Nat} (h : IsCeil χ M) (h1 : χ < r52) : M ≤ 4503599627370496 := by
  have a := vr_strict h1
  rw [vr_r52] at a
  have b := h.lt
  have : M * one < (4503599627370496 + 1) * one := by rw [Nat.add_mul, Nat.one_mul]; omega
  have := Nat.lt_of_mul_lt_mul_right this
  omega

/-- what math.Ceil hands back -/
theorem rg_ceil {x χ : Nat} (h : Rg x χ) (hf : χ < infR) : ∃ M ν, IsCeil χ M ∧ vr ν = M * one ∧ ν ≤ infR ∧ Rg (double.write ((double.read x).integral .up)) ν := by
  unfold Rg at h
  generalize double.read x = d at *
  cases d with
  | nan => exact h.elim
  | infinity s => exact absurd h.2 (by omega)
  | number s m i =>
    obtain ⟨h1, h2, h3, h4⟩ := h
    simp only [Datum.integral, Nat.shiftLeft_eq]
    have hn : s = true → m * 2 ^ i.toNat = 0 := fun e => by rw [h4 e, Nat.zero_mul]
    obtain ⟨c1, c2⟩ := cut_up s (m * 2 ^ i.toNat) (-i).toNat hn
    have hpl := place_eq h2 m _ h3
    obtain ⟨r, w1, w2⟩ := write_near s (Toward.up.cut s (m * 2 ^ i.toNat) (-i).toNat) 0 (fun e => by
      rw [hn e] at c2 ⊢
      rcases Nat.eq_zero_or_pos (Toward.up.cut s 0 (-i).toNat) with h0 | h0
      · exact h0
      · have := Nat.mul_le_mul_right (2 ^ (-i).toNat) h0
        omega)
    generalize Toward.up.cut s (m * 2 ^ i.toNat) (-i).toNat = M at *
    have hc : IsCeil χ M := by
      constructor
      · refine Nat.le_of_mul_le_mul_right (c := 2 ^ (-i).toNat) ?_ (Nat.two_pow_pos _)
        rw [hpl, Nat.mul_right_comm M one]
        exact Nat.mul_le_mul_right _ c1
      · refine Nat.lt_of_mul_lt_mul_right (a := 2 ^ (-i).toNat) ?_
        rw [Nat.add_mul, hpl, Nat.mul_right_comm M one, Nat.mul_comm one, ← Nat.add_mul]
        exact Nat.mul_lt_mul_of_pos_right c2 one_pos
    have hN : Near r (M * one) 1 := by
      rw [one_eq ((0 : Int) + 1074).toNat rfl]
      exact w2
    refine ⟨M, r, hc, ?_, hN.le, w1⟩
    rcases Nat.lt_or_ge χ r52 with hs | hs
    · exact (near_small hN (by have := hc.small hs; omega)).1
    · have e := hc.whole hs
      have : r = χ := Near.exact (q := 1) (by rw [e, Nat.mul_one]; exact hN) (Nat.le_of_lt h1) (by decide)
      rw [this]
      exact e

/-- int64(x) of a whole number -/
theorem int_of_rg {z ν M : Nat} (h : Rg z ν) (hν : vr ν = M * one) (hM : M < 9223372036854775808) : floatToIntVal .f64 z .i64 = some (M : Int) := by
  have hlt : ν < infR := by
    rcases Nat.lt_or_ge ν infR with h1 | h1
    · exact h1
    · have a := vr_mono h1
      have b : vr r63 ≤ vr infR := vr_mono (by decide)
      rw [vr_r63] at b
      rw [hν] at a
      have := Nat.mul_lt_mul_of_pos_right hM one_pos
      omega
  have key : (double.read z).toInt .zero = some (M : Int) := by
    unfold Rg at h
    generalize double.read z = d at *
    cases d with
    | nan => exact h.elim
    | infinity s => exact absurd h.2 (by omega)
    | number s m i =>
      obtain ⟨h1, h2, h3, h4⟩ := h
      unfold Datum.toInt
      simp only [Datum.integral, Nat.shiftLeft_eq]
      rw [cut_zero]
      have hpl := place_eq h2 m _ h3
      rw [hν, Nat.mul_right_comm] at hpl
      have := Nat.eq_of_mul_eq_mul_right one_pos hpl
      rw [← this, Nat.mul_div_cancel _ (Nat.two_pow_pos _), signed_eq _ _ _ (fun e => by
        rw [h4 e, Nat.zero_mul] at this
        exact (Nat.mul_eq_zero.1 this).resolve_right (Nat.ne_of_gt (Nat.two_pow_pos _)))]
      simp
  unfold floatToIntVal
  have : (FloatKind.f64.decode z).toInt .zero = some (M : Int) := key
  rw [this]
  simp only
  rw [if_pos]
  constructor
  · have : IntKind.i64.min = -9223372036854775808 := by decide
    omega
  · have : IntKind.i64.max = 9223372036854775807 := by decide
    omega

end Go.Proofs.Qxb6604567a
