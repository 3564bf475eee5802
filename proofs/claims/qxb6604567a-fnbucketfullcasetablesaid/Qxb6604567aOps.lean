/-
  words that read as a number at or above 0, and what the operations make of them.
-/
import Derived.Test.Qxb6604567aRnd
import Derived.Laws.FloatArith
namespace Go.Proofs.Qxb6604567a
open Ieee

/-- the datum is the number of rung r (-0 counts as 0) -/
def Dg : Datum → Nat → Prop
  | .number neg m i, r => r < infR ∧ -1074 ≤ i ∧ vr r = m * 2 ^ (i + 1074).toNat ∧ (neg = true → m = 0)
  | .infinity neg, r => neg = false ∧ r = infR
  | .nan .., _ => False

def Rg (x r : Nat) : Prop := Dg (double.read x) r

theorem dg_read (x r : Nat) (hr : r ≤ infR) (e1 : x % 9223372036854775808 = r) (e2 : x / 9223372036854775808 % 2 = 0 ∨ r = 0) : Rg x r := by
  have f : double.signWeight = 9223372036854775808 ∧ double.binade = 4503599627370496 ∧ double.infRung = infR ∧ double.leastPlace = -1074 := by decide
  unfold Rg Format.read
  simp only [f.1, f.2.1, f.2.2.1, f.2.2.2, e1]
  split
  · rename_i h
    refine ⟨by unfold infR; omega, by omega, by simp [vr, h], fun hn => ?_⟩
    rcases e2 with e | e
    · simp [e] at hn
    · exact e
  · rename_i h
    split
    · rename_i h2
      refine ⟨h2, by omega, ?_, fun hn => ?_⟩
      · unfold vr
        rw [if_neg h]
        congr 2
        omega
      · rcases e2 with e | e
        · simp [e] at hn
        · omega
    · rename_i h2
      rw [if_pos (by omega)]
      refine ⟨?_, by omega⟩
      rcases e2 with e | e
      · simp [e]
      · subst e
        exact absurd h2 (by decide)

theorem rg_self (r : Nat) (h : r ≤ infR) : Rg r r := dg_read r r h (Nat.mod_eq_of_lt (by unfold infR at h; omega)) (.inl (by
  rw [Nat.div_eq_of_lt (by unfold infR at h; omega)]))

theorem rg_zero : Rg 9223372036854775808 0 := dg_read _ 0 (by decide) (by decide) (.inr rfl)

theorem rg_word (neg : Bool) (r : Nat) (hr : r ≤ infR) (hn : neg = true → r = 0) : Rg (double.word neg r) r := by
  unfold Format.word
  cases neg with
  | false => exact rg_self r hr
  | true => rw [hn rfl]; exact rg_zero

theorem Dg.le {d : Datum} {r : Nat} (h : Dg d r) : r ≤ infR := by
  cases d with
  | number neg m i => exact Nat.le_of_lt h.1
  | infinity neg => exact Nat.le_of_eq h.2
  | nan => exact h.elim

theorem Rg.le {x r : Nat} (h : Rg x r) : r ≤ infR := Dg.le h

theorem signed_eq (neg : Bool) (m k : Nat) (h : neg = true → m = 0) : signed neg m k = ((m * 2 ^ k : Nat) : Int) := by
  unfold signed
  rw [Nat.shiftLeft_eq]
  split
  · rename_i hn
    rw [h hn]
    simp
  · rfl

theorem pow_split {i b : Int} (h : b ≤ i) (h1 : -1074 ≤ b) (m : Nat) : m * 2 ^ (i - b).toNat * 2 ^ (b + 1074).toNat = m * 2 ^ (i + 1074).toNat := by
  rw [Nat.mul_assoc, ← Nat.pow_add]
  congr 2
  omega

theorem cmp_nat (a b : Nat) : compare (a : Int) (b : Int) = compare a b := by
  rw [Int.compare_eq_ite_le, Nat.compare_eq_ite_le]
  simp [Int.ofNat_le]

theorem cmp_mul (a b c : Nat) (hc : 0 < c) : compare (a * c) (b * c) = compare a b := by
  rw [Nat.compare_eq_ite_le, Nat.compare_eq_ite_le]
  have : ∀ x y, x * c ≤ y * c ↔ x ≤ y := fun x y => ⟨fun h => Nat.le_of_mul_le_mul_right h hc, fun h => Nat.mul_le_mul_right _ h⟩
  simp [this]

theorem cmp_vr (a b : Nat) : compare (vr a) (vr b) = compare a b := by
  rw [Nat.compare_eq_ite_le, Nat.compare_eq_ite_le]
  simp [vr_le_iff]

theorem Rg.order {x y a b : Nat} (h : Rg x a) (g : Rg y b) : double.order x y = some (compare a b) := by
  unfold Rg at h g
  unfold Format.order
  generalize double.read x = d at *
  generalize double.read y = e at *
  cases d with
  | nan => exact h.elim
  | infinity s =>
    obtain ⟨rfl, rfl⟩ := h
    cases e with
    | nan => exact g.elim
    | infinity t =>
      obtain ⟨rfl, rfl⟩ := g
      rfl
    | number t n j =>
      have := g.1
      simp only [Datum.order]
      rw [(Nat.compare_eq_gt).2 this]
      rfl
  | number s m i =>
    cases e with
    | nan => exact g.elim
    | infinity t =>
      obtain ⟨rfl, rfl⟩ := g
      have := h.1
      simp only [Datum.order]
      rw [(Nat.compare_eq_lt).2 this]
      rfl
    | number t n j =>
      obtain ⟨h1, h2, h3, h4⟩ := h
      obtain ⟨g1, g2, g3, g4⟩ := g
      simp only [Datum.order]
      rw [signed_eq _ _ _ h4, signed_eq _ _ _ g4, cmp_nat, ← cmp_mul _ _ (2 ^ (min i j + 1074).toNat) (Nat.two_pow_pos _), pow_split (by omega) (by omega), pow_split (by omega) (by omega), ← h3, ← g3, cmp_vr]

theorem near_nought (q : Nat) (hq : 0 < q) : Near 0 0 q := by
  refine ⟨Nat.zero_le _, fun k h1 h2 => ⟨fun h => by omega, fun h => ?_⟩⟩
  have : 0 < thr k := by
    unfold thr
    have := vr_lt_succ (k - 1)
    rw [Nat.sub_add_cancel h1] at this
    omega
  have := Nat.mul_pos this hq
  omega

/-- what is written is the nearest rung -/
theorem write_near (neg : Bool) (mag : Nat) (place : Int) (hn : neg = true → mag = 0) :
    ∃ r, Rg (double.write (.number neg mag place)) r ∧ Near r (mag * 2 ^ (place + 1074).toNat) (2 ^ (-(place + 1074)).toNat) := by
  rcases Nat.eq_zero_or_pos mag with h | h
  · subst h
    refine ⟨0, ?_, ?_⟩
    · unfold Format.write
      simp only [Format.nearest, if_true]
      exact rg_word _ _ (Nat.zero_le _) (fun _ => rfl)
    · rw [Nat.zero_mul]
      exact near_nought _ (Nat.two_pow_pos _)
  · obtain ⟨r, h1, h2⟩ := near_number mag place h
    refine ⟨r, ?_, h1⟩
    unfold Format.write
    simp only [h2]
    exact rg_word _ _ h1.le (fun e => by have := hn e; omega)

def pw (n : Nat) : Nat := 2 ^ n
/-- 1.0, in units of the least number -/
def one : Nat := pw 1074
theorem one_eq (n : Nat) (h : n = 1074) : one = 2 ^ n := by unfold one; rw [← h]; rfl
theorem one_pos : 0 < one := by
  obtain ⟨u, hu⟩ : ∃ u : Nat, u = 1074 := ⟨_, rfl⟩
  rw [one_eq u hu]
  exact Nat.two_pow_pos _

/-- float64(n) -/
theorem rg_int (n : Nat) : ∃ r, Rg (floatOfInt .f64 (n : Int)) r ∧ Near r (n * one) 1 := by
  obtain ⟨r, h1, h2⟩ := write_near false n 0 (fun h => by cases h)
  refine ⟨r, ?_, ?_⟩
  · have : floatOfInt .f64 (n : Int) = double.write (.number false n 0) := by
      unfold floatOfInt FloatKind.nearest FloatKind.encode
      have : ¬ ((n : Int) < 0) := by omega
      simp only [FloatKind.format, this, decide_false, Int.natAbs_natCast]
    rw [this]
    exact h1
  · rw [one_eq ((0 : Int) + 1074).toNat rfl]
    exact h2

theorem Near.inf {p q : Nat} (hq : 0 < q) (h : vr infR * q ≤ p) : Near infR p q := by
  refine ⟨Nat.le_refl _, fun k h1 h2 => ⟨fun _ => .inl ?_, fun _ => h2⟩⟩
  unfold thr
  have a1 := vr_lt_succ (k - 1)
  rw [Nat.sub_add_cancel h1] at a1
  have a2 := vr_mono h2
  have a3 : (vr (k - 1) + vr k) * q < (2 * vr infR) * q := Nat.mul_lt_mul_of_pos_right (by omega) hq
  rw [Nat.mul_assoc 2] at a3
  omega

theorem rg_inf {x r : Nat} (s : Bool) (hs : s = false) (h : x = double.write (.infinity s)) (hr : r = infR) : Rg x r := by
  subst hs hr h
  exact rg_word false infR (Nat.le_refl _) (fun h => by cases h)

theorem rg_add {x y a b : Nat} (h : Rg x a) (g : Rg y b) : ∃ z r, double.add x y = some z ∧ Rg z r ∧ Near r (vr a + vr b) 1 := by
  unfold Rg at h g
  unfold Format.add
  generalize double.read x = d at *
  generalize double.read y = e at *
  cases d with
  | nan => exact h.elim
  | infinity s =>
    obtain ⟨rfl, rfl⟩ := h
    have hN : Near infR (vr infR + vr b) 1 := Near.inf (by decide) (by omega)
    cases e with
    | nan => exact g.elim
    | infinity t =>
      obtain ⟨rfl, rfl⟩ := g
      exact ⟨_, infR, rfl, rg_inf _ rfl rfl rfl, hN⟩
    | number t n j => exact ⟨_, infR, rfl, rg_inf _ rfl rfl rfl, hN⟩
  | number s m i =>
    cases e with
    | nan => exact g.elim
    | infinity t =>
      obtain ⟨rfl, rfl⟩ := g
      have hN : Near infR (vr a + vr infR) 1 := Near.inf (by decide) (by omega)
      exact ⟨_, infR, rfl, rg_inf _ rfl rfl rfl, hN⟩
    | number t n j =>
      obtain ⟨h1, h2, h3, h4⟩ := h
      obtain ⟨g1, g2, g3, g4⟩ := g
      simp only [Datum.sum]
      rw [signed_eq _ _ _ h4, signed_eq _ _ _ g4, ← Int.natCast_add]
      generalize hT : m * 2 ^ (i - min i j).toNat + n * 2 ^ (j - min i j).toNat = T
      obtain ⟨r, a1, a2⟩ := write_near (if (T : Int) = 0 then s && t else decide ((T : Int) < 0)) T (min i j) (fun hh => by
        split at hh
        · rename_i h0; omega
        · simp at hh; omega)
      refine ⟨_, r, rfl, a1, ?_⟩
      have e : T * 2 ^ (min i j + 1074).toNat = vr a + vr b := by
        rw [← hT, Nat.add_mul, pow_split (by omega) (by omega), pow_split (by omega) (by omega), h3, g3]
      rw [e, show (-(min i j + 1074)).toNat = 0 by omega] at a2
      exact a2

theorem rg_mul {x y a b : Nat} (h : Rg x a) (g : Rg y b) (ha : a < infR) (hb : b < infR) : ∃ z r, double.mul x y = some z ∧ Rg z r ∧ Near r (vr a * vr b) one := by
  unfold Rg at h g
  unfold Format.mul
  generalize double.read x = d at *
  generalize double.read y = e at *
  cases d with
  | nan => exact h.elim
  | infinity s => exact absurd h.2 (by omega)
  | number s m i =>
    cases e with
    | nan => exact g.elim
    | infinity t => exact absurd g.2 (by omega)
    | number t n j =>
      obtain ⟨h1, h2, h3, h4⟩ := h
      obtain ⟨g1, g2, g3, g4⟩ := g
      simp only [Datum.product]
      obtain ⟨r, a1, a2⟩ := write_near (s ^^ t) (m * n) (i + j) (fun hh => by
        cases s with
        | true => rw [h4 rfl, Nat.zero_mul]
        | false =>
          cases t with
          | true => rw [g4 rfl, Nat.mul_zero]
          | false => cases hh)
      refine ⟨_, r, rfl, a1, a2.congr (Nat.two_pow_pos _) one_pos ?_⟩
      obtain ⟨u, hu⟩ : ∃ u : Nat, u = 1074 := ⟨_, rfl⟩
      rw [h3, g3, one_eq u hu]
      have : ∀ a b c d : Nat, a * b * (c * d) = a * c * (b * d) := fun a b c d => by rw [Nat.mul_assoc, Nat.mul_assoc, Nat.mul_left_comm b c d]
      rw [this, Nat.mul_assoc (m * n), Nat.mul_assoc (m * n), ← Nat.pow_add, ← Nat.pow_add, ← Nat.pow_add]
      congr 2
      omega

theorem rg_div {x y a b : Nat} (h : Rg x a) (g : Rg y b) (ha : a < infR) (hb : b < infR) (hb0 : 0 < b) : ∃ z r, double.div x y = some z ∧ Rg z r ∧ Near r (vr a * one) (vr b) := by
  have hvb : 0 < vr b := by have := vr_strict hb0; omega
  unfold Rg at h g
  unfold Format.div
  generalize double.read x = d at *
  generalize double.read y = e at *
  cases d with
  | nan => exact h.elim
  | infinity s => exact absurd h.2 (by omega)
  | number s m i =>
    cases e with
    | nan => exact g.elim
    | infinity t => exact absurd g.2 (by omega)
    | number t n j =>
      obtain ⟨h1, h2, h3, h4⟩ := h
      obtain ⟨g1, g2, g3, g4⟩ := g
      have hn : 0 < n := by
        rcases Nat.eq_zero_or_pos n with e | e
        · rw [e, Nat.zero_mul] at g3; omega
        · exact e
      obtain rfl : t = false := by
        cases t with
        | true => have := g4 rfl; omega
        | false => rfl
      simp only [Datum.quotient]
      rw [if_neg (by omega)]
      simp only [Nat.shiftLeft_eq, show double.fractionBits + 2 = 54 from rfl]
      generalize hmo : 54 + n.log2 - m.log2 = mo
      obtain ⟨r, a1, a2⟩ := write_near (s ^^ false) (2 * (m * 2 ^ mo / n) + (m * 2 ^ mo % n != 0).toNat) (i - j - mo - 1) (fun hh => by
        cases s with
        | true => rw [h4 rfl]; simp
        | false => cases hh)
      refine ⟨_, r, rfl, a1, ?_⟩
      rcases Nat.eq_zero_or_pos m with e | hm
      · subst e
        have : r = 0 := by
          simp at a2
          exact Nat.le_zero.1 (a2.le_of (k := 0) (Nat.zero_le _) (Nat.two_pow_pos _))
        subst this
        rw [h3, Nat.zero_mul, Nat.zero_mul]
        exact near_nought _ hvb
      · have l1 : 2 ^ m.log2 ≤ m := Nat.log2_self_le (by omega)
        have l2 : n < 2 ^ (n.log2 + 1) := Nat.lt_log2_self
        have hq : 9007199254740992 ≤ m * 2 ^ mo / n := by
          rw [Nat.le_div_iff_mul_le hn]
          have b1 : 2 ^ m.log2 * 2 ^ mo ≤ m * 2 ^ mo := Nat.mul_le_mul_right _ l1
          have b2 : 2 ^ 53 * 2 ^ (n.log2 + 1) ≤ 2 ^ m.log2 * 2 ^ mo := by
            rw [← Nat.pow_add, ← Nat.pow_add]
            exact Nat.pow_le_pow_right (by decide) (by omega)
          have b3 : 9007199254740992 * n ≤ 2 ^ 53 * 2 ^ (n.log2 + 1) := Nat.mul_le_mul (by decide) (Nat.le_of_lt l2)
          exact Nat.le_trans b3 (Nat.le_trans b2 b1)
        refine (near_sticky hn hq a2).congr (Nat.mul_pos hn (Nat.two_pow_pos _)) hvb ?_
        obtain ⟨u, hu⟩ : ∃ u : Nat, u = 1074 := ⟨_, rfl⟩
        rw [h3, g3, one_eq u hu]
        have c1 : ∀ A B C D E : Nat, 2 * (m * A) * B * (n * C) = (m * n) * (2 ^ 1 * A * B * C) := fun A B C D E => by
          rw [Nat.pow_one]; ac_rfl
        have c2 : ∀ A B C : Nat, m * A * B * (n * C) = (m * n) * (A * B * C) := fun A B C => by
          ac_rfl
        rw [c1 _ _ _ 0 0, c2, ← Nat.pow_add, ← Nat.pow_add, ← Nat.pow_add, ← Nat.pow_add, ← Nat.pow_add]
        congr 2
        omega

end Go.Proofs.Qxb6604567a
