/-
  the shortfall and the wait: any float64 taken from a whole number; quotient, product; made whole.
-/
import Derived.Test.Qxb6604567aDom
namespace Go.Proofs.Qxb6604567a
open Ieee

theorem flds : double.signWeight = 9223372036854775808 ∧ double.binade = 4503599627370496 ∧ double.infRung = infR ∧ double.leastPlace = -1074 := by decide

theorem dg_sum {d e : Datum} {a b : Nat} (h : Dg d a) (g : Dg e b) : ∃ D r, d.sum e = some D ∧ Rg (double.write D) r ∧ Near r (vr a + vr b) 1 := by
  cases d with
  | nan => exact h.elim
  | infinity s =>
    obtain ⟨rfl, rfl⟩ := h
    have hN : Near infR (vr infR + vr b) 1 := Near.inf (by decide) (by omega)
    cases e with
    | nan => exact g.elim
    | infinity t =>
      obtain ⟨rfl, rfl⟩ := g
      exact ⟨_, infR, rfl, rg_inf _ rfl rfl rfl, hN⟩
    | number t n j => exact ⟨_, infR, rfl, rg_inf _ rfl rfl rfl, hN⟩
  | number s m i =>
    cases e with
    | nan => exact g.elim
    | infinity t =>
      obtain ⟨rfl, rfl⟩ := g
      have hN : Near infR (vr a + vr infR) 1 := Near.inf (by decide) (by omega)
      exact ⟨_, infR, rfl, rg_inf _ rfl rfl rfl, hN⟩
    | number t n j =>
      obtain ⟨h1, h2, h3, h4⟩ := h
      obtain ⟨g1, g2, g3, g4⟩ := g
      simp only [Datum.sum]
      rw [signed_eq _ _ _ h4, signed_eq _ _ _ g4, ← Int.natCast_add]
      generalize hT : m * 2 ^ (i - min i j).toNat + n * 2 ^ (j - min i j).toNat = T
      obtain ⟨r, a1, a2⟩ := write_near (if (T : Int) = 0 then s && t else decide ((T : Int) < 0)) T (min i j) (fun hh => by
        split at hh
        · rename_i h0; omega
        · simp at hh; omega)
      refine ⟨_, r, rfl, a1, ?_⟩
      have e : T * 2 ^ (min i j + 1074).toNat = vr a + vr b := by
        rw [← hT, Nat.add_mul, pow_split (by omega) (by omega), pow_split (by omega) (by omega), h3, g3]
      rw [e, show (-(min i j + 1074)).toNat = 0 by omega] at a2
      exact a2

/-- a word with its sign bit set: the opposite is the word without it -/
theorem read_opp {x : Nat} (hs : x / 9223372036854775808 % 2 = 1) (hr : x % 9223372036854775808 ≤ infR) : (double.read x).opposite = double.read (x % 9223372036854775808) := by
  have e1 : (x % 9223372036854775808) % 9223372036854775808 = x % 9223372036854775808 := Nat.mod_mod _ _
  have e2 : (x % 9223372036854775808) / 9223372036854775808 % 2 = 0 := by
    rw [Nat.div_eq_of_lt (Nat.mod_lt _ (by decide))]
  unfold Format.read
  simp only [flds.1, flds.2.1, flds.2.2.1, flds.2.2.2, e1, e2, hs]
  split
  · rfl
  · split
    · rfl
    · rw [if_pos (by omega), if_pos (by omega)]
      rfl

/-- a word whose sign bit is set does not lie above 0 -/
theorem neg_low {z r : Nat} (hz : z = double.word true r) (hr : r ≤ infR) : double.order z 0 = some .lt ∨ double.order z 0 = some .eq := by
  rcases Nat.eq_zero_or_pos r with h0 | h0
  · subst h0
    right
    have hg : Rg z 0 := by rw [hz]; exact rg_zero
    rw [hg.order rg_nil]
    rfl
  · left
    have hw : z = 9223372036854775808 + r := by rw [hz]; unfold Format.word; rw [if_pos rfl, flds.1]
    have e1 : z % 9223372036854775808 = r := by
      rw [hw, Nat.add_mod_left]
      exact Nat.mod_eq_of_lt (by unfold infR at hr; omega)
    have e2 : z / 9223372036854775808 % 2 = 1 := by unfold infR at hr; omega
    have neg : ∀ (m : Nat) (i : Int), 0 < m → -1074 ≤ i → (Datum.number true m i).order (.number false 0 (-1074)) = some .lt := fun m i hm hi => by
      simp only [Datum.order]
      rw [Int.min_eq_right hi, signed_eq false 0 _ (fun h => by cases h)]
      unfold signed
      rw [if_pos rfl, Nat.shiftLeft_eq]
      have := Nat.mul_pos hm (Nat.two_pow_pos (i - -1074).toNat)
      rw [Int.compare_eq_lt.2 (by omega)]
    unfold Format.order
    rw [read_zero]
    unfold Format.read
    simp only [flds.1, flds.2.1, flds.2.2.1, flds.2.2.2, e1, e2]
    split
    · exact neg _ _ h0 (by omega)
    · split
      · exact neg _ _ (by omega) (by omega)
      · rw [if_pos (by omega)]
        rfl

/-- two numbers at or above 0, the second not above the first -/
theorem rg_sub {x y a b : Nat} (h : Rg x a) (g : Rg y b) (ha : a < infR) (hb : b < infR) (hba : b ≤ a) : ∃ z r, double.sub x y = some z ∧ Rg z r ∧ Near r (vr a - vr b) 1 := by
  unfold Rg at h g
  unfold Format.sub
  generalize double.read x = d at *
  generalize double.read y = e at *
  cases d with
  | nan => exact h.elim
  | infinity s => exact absurd h.2 (by omega)
  | number s m i =>
    cases e with
    | nan => exact g.elim
    | infinity t => exact absurd g.2 (by omega)
    | number t n j =>
      obtain ⟨h1, h2, h3, h4⟩ := h
      obtain ⟨g1, g2, g3, g4⟩ := g
      have hle := vr_mono hba
      rw [h3, g3, ← pow_split (i := i) (b := min i j) (by omega) (by omega), ← pow_split (i := j) (b := min i j) (by omega) (by omega)] at hle
      have hle2 := Nat.le_of_mul_le_mul_right hle (Nat.two_pow_pos _)
      simp only [Datum.opposite, Datum.sum]
      have so : ∀ k, signed (!t) n k = -((n * 2 ^ k : Nat) : Int) := fun k => by
        unfold signed
        rw [Nat.shiftLeft_eq]
        cases t with
        | true => rw [g4 rfl]; simp
        | false => rfl
      rw [signed_eq _ _ _ h4, so]
      generalize hT : m * 2 ^ (i - min i j).toNat - n * 2 ^ (j - min i j).toNat = T
      have hTi : ((m * 2 ^ (i - min i j).toNat : Nat) : Int) + -((n * 2 ^ (j - min i j).toNat : Nat) : Int) = (T : Int) := by omega
      rw [hTi]
      obtain ⟨r, a1, a2⟩ := write_near (if (T : Int) = 0 then s && !t else decide ((T : Int) < 0)) T (min i j) (fun hh => by
        split at hh
        · rename_i h0; omega
        · simp at hh; omega)
      refine ⟨_, r, rfl, a1, ?_⟩
      have e : T * 2 ^ (min i j + 1074).toNat = vr a - vr b := by
        rw [← hT, Nat.sub_mul, pow_split (by omega) (by omega), pow_split (by omega) (by omega), h3, g3]
      rw [e, show (-(min i j + 1074)).toNat = 0 by omega] at a2
      exact a2

/-- .. the second not below the first -/
theorem rg_sub_low {x y a b : Nat} (h : Rg x a) (g : Rg y b) (ha : a < infR) (hb : b < infR) (hba : a ≤ b) : ∃ z, double.sub x y = some z ∧ (double.order z 0 = some .lt ∨ double.order z 0 = some .eq) := by
  rcases Nat.eq_or_lt_of_le hba with he | hlt
  · obtain ⟨z, r, h1, h2, h3⟩ := rg_sub h g ha hb (by omega)
    refine ⟨z, h1, .inr ?_⟩
    have : r = 0 := by
      rw [he, Nat.sub_self] at h3
      exact Nat.le_zero.1 (h3.le_of (k := 0) (Nat.zero_le _) (by decide))
    subst this
    rw [h2.order rg_nil]
    rfl
  · unfold Rg at h g
    unfold Format.sub
    generalize double.read x = d at *
    generalize double.read y = e at *
    cases d with
    | nan => exact h.elim
    | infinity s => exact absurd h.2 (by omega)
    | number s m i =>
      cases e with
      | nan => exact g.elim
      | infinity t => exact absurd g.2 (by omega)
      | number t n j =>
        obtain ⟨h1, h2, h3, h4⟩ := h
        obtain ⟨g1, g2, g3, g4⟩ := g
        have hle := vr_strict hlt
        rw [h3, g3, ← pow_split (i := i) (b := min i j) (by omega) (by omega), ← pow_split (i := j) (b := min i j) (by omega) (by omega)] at hle
        have hle2 := Nat.lt_of_mul_lt_mul_right hle
        simp only [Datum.opposite, Datum.sum]
        have so : ∀ k, signed (!t) n k = -((n * 2 ^ k : Nat) : Int) := fun k => by
          unfold signed
          rw [Nat.shiftLeft_eq]
          cases t with
          | true => rw [g4 rfl]; simp
          | false => rfl
        rw [signed_eq _ _ _ h4, so]
        generalize hT : n * 2 ^ (j - min i j).toNat - m * 2 ^ (i - min i j).toNat = T
        have hTi : ((m * 2 ^ (i - min i j).toNat : Nat) : Int) + -((n * 2 ^ (j - min i j).toNat : Nat) : Int) = -(T : Int) := by omega
        have hT0 : 0 < T := by omega
        rw [hTi, if_neg (by omega), decide_eq_true (show -(T : Int) < 0 by omega), Int.natAbs_neg, Int.natAbs_natCast]
        obtain ⟨r, a1, a2⟩ := near_number T (min i j) hT0
        exact ⟨_, rfl, neg_low (r := r) (by unfold Format.write; exact a2 true) a1.le⟩

theorem rg_pos_read {x a : Nat} (h : Rg x a) (h0 : 0 < a) (hf : a < infR) : ∃ m i, double.read x = .number false m i ∧ 0 < m := by
  unfold Rg at h
  generalize double.read x = d at *
  cases d with
  | nan => exact h.elim
  | infinity s => exact absurd h.2 (by omega)
  | number s m i =>
    obtain ⟨h1, h2, h3, h4⟩ := h
    have hm : 0 < m := by
      rcases Nat.eq_zero_or_pos m with e | e
      · rw [e, Nat.zero_mul] at h3
        have := vr_strict h0
        omega
      · exact e
    cases s with
    | true => have := h4 rfl; omega
    | false => exact ⟨m, i, rfl, hm⟩

/-- below 1.0 and above the rungs lie 2^-53 apart and more -/
theorem gap {a b : Nat} (ha : oneR ≤ a) (h : b < a) : vr b + vr 4368491638549381120 ≤ vr a := by
  obtain ⟨E, c, e, h1, h2, h3⟩ := rung_form a (by unfold oneR at ha; omega)
  have hc : 4503599627370496 < c := by unfold oneR at ha; omega
  have v1 := vr_at E c h2 (.inr (by omega))
  have v2 := vr_at E (c - 1) (by omega) (.inr (by omega))
  obtain ⟨u, hu⟩ : ∃ u : Nat, u = 969 := ⟨_, rfl⟩
  have v3 := vr_at u 4503599627370496 (by decide) (.inr (by decide))
  rw [show u * 4503599627370496 + 4503599627370496 = 4368491638549381120 by omega] at v3
  rw [← e] at v1
  have hE : 1021 ≤ E := by unfold oneR at ha; omega
  have h5 : vr b ≤ (c - 1) * 2 ^ E := by rw [← v2]; exact vr_mono (by omega)
  have h6 : 4503599627370496 * 2 ^ u ≤ 2 ^ E := by
    rw [show (4503599627370496 : Nat) = 2 ^ 52 by decide, ← Nat.pow_add]
    exact Nat.pow_le_pow_right (by decide) (by omega)
  have h7 := Nat.add_mul (c - 1) 1 (2 ^ E)
  rw [Nat.sub_add_cancel h1, Nat.one_mul] at h7
  rw [v1, v3]
  omega

/-- what taking any float64 from a whole number at or above 1 comes to -/
theorem short_cases (x held a : Nat) (h : Rg x a) (h0 : oneR ≤ a) (hf : a < infR) :
    (double.sub x held = none ∧ ∀ y, double.order held y = none) ∨
    (∃ z, double.sub x held = some z ∧ (double.order z 0 = some .lt ∨ double.order z 0 = some .eq) ∧ (double.order held x = some .gt ∨ double.order held x = some .eq)) ∨
    (∃ z σ, double.sub x held = some z ∧ Rg z σ ∧ 4368491638549381120 ≤ σ ∧ double.order held x = some .lt) := by
  have hvr : vr 4368491638549381120 ≤ vr a := by have := gap h0 (b := 0) (by unfold oneR at h0; omega); omega
  obtain ⟨m, i, hrd, hm⟩ := rg_pos_read h (by unfold oneR at h0; omega) hf
  by_cases hr : held % 9223372036854775808 ≤ infR
  · by_cases hs : held / 9223372036854775808 % 2 = 1
    · -- the sign bit is set
      have ho := read_opp hs hr
      have hg : Rg (held % 9223372036854775808) (held % 9223372036854775808) := rg_self _ hr
      by_cases hz : held % 9223372036854775808 = 0
      · -- it is -0
        have hg0 : Rg held 0 := dg_read held 0 (by decide) hz (.inr rfl)
        obtain ⟨z, r, k1, k2, k3⟩ := rg_sub h hg0 hf (by decide) (Nat.zero_le _)
        refine .inr (.inr ⟨z, r, k1, k2, k3.ge (by decide) ?_ (by decide), ?_⟩)
        · have : vr 0 = 0 := by decide
          omega
        · rw [hg0.order h]
          rw [Nat.compare_eq_lt.2 (by unfold oneR at h0; omega)]
      · right; right
        have hd : Dg (double.read held).opposite (held % 9223372036854775808) := by rw [ho]; exact hg
        obtain ⟨D, r, k1, k2, k3⟩ := dg_sum h hd
        refine ⟨double.write D, r, ?_, k2, k3.ge (by decide) (by omega) (by decide), ?_⟩
        · unfold Format.sub
          rw [k1]
          rfl
        · unfold Format.order
          rw [hrd]
          have hne : ∀ s' m' i', double.read held = .number s' m' i' → s' = true ∧ 0 < m' := fun s' m' i' e => by
            rw [e] at hd
            obtain ⟨q1, q2, q3, q4⟩ := hd
            have hm' : 0 < m' := by
              rcases Nat.eq_zero_or_pos m' with e' | e'
              · rw [e', Nat.zero_mul] at q3
                have := vr_strict (Nat.pos_of_ne_zero hz)
                omega
              · exact e'
            cases s' with
            | true => exact ⟨rfl, hm'⟩
            | false => have := q4 rfl; omega
          generalize double.read held = d at *
          cases d with
          | nan => exact hd.elim
          | infinity s' =>
            have := hd.1
            cases s' with
            | true => rfl
            | false => cases this
          | number s' m' i' =>
            obtain ⟨rfl, hm'⟩ := hne _ _ _ rfl
            simp only [Datum.order]
            rw [signed_eq false m _ (fun h => by cases h)]
            unfold signed
            rw [if_pos rfl, Nat.shiftLeft_eq]
            have := Nat.mul_pos hm' (Nat.two_pow_pos (i' - min i' i).toNat)
            rw [Int.compare_eq_lt.2 (by omega)]
    · have hg : Rg held (held % 9223372036854775808) := dg_read held _ hr rfl (.inl (by omega))
      generalize held % 9223372036854775808 = η at *
      rcases Nat.eq_or_lt_of_le hr with he | hlt
      · -- +Inf
        subst he
        right; left
        have hinf : double.read held = .infinity false := by
          unfold Rg at hg
          generalize double.read held = d at *
          cases d with
          | nan => exact hg.elim
          | infinity s => rw [hg.1]
          | number s m i => exact absurd hg.1 (by omega)
        refine ⟨double.word true infR, ?_, neg_low rfl (Nat.le_refl _), .inl ?_⟩
        · unfold Format.sub
          rw [hrd, hinf]
          rfl
        · rw [hg.order h, Nat.compare_eq_gt.2 hf]
      · rcases Nat.lt_or_ge η a with hl | hl
        · obtain ⟨z, r, k1, k2, k3⟩ := rg_sub h hg hf hlt (by omega)
          refine .inr (.inr ⟨z, r, k1, k2, k3.ge (by decide) ?_ (by decide), ?_⟩)
          · have := gap h0 hl
            omega
          · rw [hg.order h, Nat.compare_eq_lt.2 hl]
        · obtain ⟨z, k1, k2⟩ := rg_sub_low h hg hf hlt hl
          refine .inr (.inl ⟨z, k1, k2, ?_⟩)
          rw [hg.order h]
          rcases Nat.eq_or_lt_of_le hl with e | e
          · right; rw [Nat.compare_eq_eq.2 e.symm]
          · left; rw [Nat.compare_eq_gt.2 e]
  · left
    have hn : ∃ s f, double.read held = .nan s f := by
      unfold Format.read
      simp only [flds.1, flds.2.1, flds.2.2.1, flds.2.2.2]
      rw [if_neg (by unfold infR at hr; omega), if_neg (by omega), if_neg (by omega)]
      exact ⟨_, _, rfl⟩
    obtain ⟨s, f, hn⟩ := hn
    refine ⟨?_, fun y => ?_⟩
    · unfold Format.sub
      rw [hrd, hn]
      rfl
    · unfold Format.order
      rw [hn]
      rfl

end Go.Proofs.Qxb6604567a
