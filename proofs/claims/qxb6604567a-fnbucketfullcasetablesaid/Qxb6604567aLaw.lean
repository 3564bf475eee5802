/-
  whole numbers as rungs; the seconds of a duration; a bucket's tokens: the plain laws.
-/
import Derived.Test.Qxb6604567aOps
namespace Go.Proofs.Qxb6604567a
open Ieee

theorem vr_shift (k j : Nat) (hk : 4503599627370496 ≤ k) : vr (k + j * 4503599627370496) = 2 ^ j * vr k := by
  unfold vr
  rw [if_neg (by omega), if_neg (by omega), Nat.add_mul_mod_self_right, Nat.add_mul_div_right _ _ (by decide), Nat.mul_left_comm, ← Nat.pow_add]
  congr 2
  have : 1 ≤ k / 4503599627370496 := (Nat.le_div_iff_mul_le (by decide)).2 (by omega)
  omega

def oneR : Nat := 4607182418800017408

theorem vr_one : vr oneR = one := by
  have h := vr_at 1022 4503599627370496 (by decide) (.inr (by decide))
  rw [show 1022 * 4503599627370496 + 4503599627370496 = oneR by decide] at h
  obtain ⟨u, hu⟩ : ∃ u : Nat, u = 1022 := ⟨_, rfl⟩
  rw [h, ← hu, one_eq (52 + u) (by omega), Nat.pow_add]

theorem int_pos (n : Nat) (h1 : 1 ≤ n) (h2 : n < 9007199254740992) : ∃ k, vr k = n * one := by
  have l1 : 2 ^ n.log2 ≤ n := Nat.log2_self_le (by omega)
  have l2 : n < 2 ^ (n.log2 + 1) := Nat.lt_log2_self
  have l3 : n.log2 < 53 := (Nat.log2_lt (by omega)).2 h2
  refine ⟨(1022 + n.log2) * 4503599627370496 + n * 2 ^ (52 - n.log2), ?_⟩
  have e52 : 2 ^ 52 = 4503599627370496 := by decide
  have e53 : 2 ^ 53 = 9007199254740992 := by decide
  rw [vr_at]
  · rw [Nat.mul_assoc, ← Nat.pow_add, one_eq (52 - n.log2 + (1022 + n.log2)) (by omega)]
  · have : n * 2 ^ (52 - n.log2) ≤ 2 ^ (n.log2 + 1) * 2 ^ (52 - n.log2) := Nat.mul_le_mul_right _ (by omega)
    rw [← Nat.pow_add, show n.log2 + 1 + (52 - n.log2) = 53 by omega, e53] at this
    exact this
  · right
    have : 2 ^ n.log2 * 2 ^ (52 - n.log2) ≤ n * 2 ^ (52 - n.log2) := Nat.mul_le_mul_right _ l1
    rw [← Nat.pow_add, show n.log2 + (52 - n.log2) = 52 by omega, e52] at this
    exact this

def topR : Nat := 4850376798678024192

theorem vr_top : vr topR = 18014398509481984 * one := by
  have := vr_shift oneR 54 (by decide)
  rw [show oneR + 54 * 4503599627370496 = topR by decide, vr_one, show 2 ^ 54 = 18014398509481984 by decide] at this
  exact this

theorem int_rung (n : Nat) (h : n < 9007199254740992) : ∃ k, vr k = n * one ∧ k ≤ topR ∧ (1 ≤ n → oneR ≤ k) := by
  have hp := one_pos
  rcases Nat.eq_zero_or_pos n with e | e
  · subst e
    exact ⟨0, by rw [Nat.zero_mul]; decide, by decide, fun h => by omega⟩
  · obtain ⟨k, hk⟩ := int_pos n e h
    refine ⟨k, hk, vr_le_iff.1 ?_, fun _ => vr_le_iff.1 ?_⟩
    · rw [hk, vr_top]
      exact Nat.mul_le_mul_right _ (by omega)
    · rw [hk, vr_one]
      exact Nat.le_mul_of_pos_left _ e

/-- small whole numbers are exact -/
theorem near_small {r n : Nat} (h : Near r (n * one) 1) (hn : n < 9007199254740992) : vr r = n * one ∧ r ≤ topR ∧ (1 ≤ n → oneR ≤ r) := by
  obtain ⟨k, h1, h2, h3⟩ := int_rung n hn
  have : r = k := by
    refine Near.exact (q := 1) ?_ (Nat.le_trans h2 (by decide)) (by decide)
    rw [h1, Nat.mul_one]
    exact h
  subst this
  exact ⟨h1, h2, h3⟩

/-- other whole numbers are not far off -/
theorem near_up {r n : Nat} (h : Near r (n * one) 1) (hn : n ≤ 4611686018427387904) : vr r ≤ (n + 1024) * one := by
  by_cases hs : n < 9007199254740992
  · rw [(near_small h hs).1]
    exact Nat.mul_le_mul_right _ (by omega)
  · obtain ⟨k, h1, h2, h3⟩ := int_rung (n / 1024 + 1) (by omega)
    have hk := h3 (by omega)
    have h4 := vr_shift k 10 (Nat.le_trans (by decide) hk)
    rw [h1, ← Nat.mul_assoc] at h4
    have h5 : r ≤ k + 10 * 4503599627370496 := by
      refine h.le_of ?_ (by decide)
      rw [h4, Nat.mul_one]
      exact Nat.mul_le_mul_right _ (by omega)
    have h6 := vr_mono h5
    rw [h4] at h6
    exact Nat.le_trans h6 (Nat.mul_le_mul_right _ (by omega))

/-- .. and stay far below the infinite -/
theorem near_fin {r n : Nat} (h : Near r (n * one) 1) (hn : n ≤ 18446744073709551616) : r ≤ 4895412794951729152 ∧ (1 ≤ n → oneR ≤ r) := by
  have h1 := vr_shift oneR 64 (by decide)
  rw [show oneR + 64 * 4503599627370496 = 4895412794951729152 by decide, vr_one] at h1
  refine ⟨h.le_of (by rw [h1, Nat.mul_one]; exact Nat.mul_le_mul_right _ hn) (by decide), fun h2 => h.ge (by decide) ?_ (by decide)⟩
  rw [vr_one, Nat.mul_one]
  exact Nat.le_mul_of_pos_left _ h2

def c9 : Nat := 4741671816366391296
def c29 : Nat := 4746175415993761792

theorem vr_c9 : vr c9 = 1000000000 * one := by
  have h := vr_at 1051 8388608000000000 (by decide) (.inr (by decide))
  rw [show 1051 * 4503599627370496 + 8388608000000000 = c9 by decide] at h
  obtain ⟨u, hu⟩ : ∃ u : Nat, u = 1051 := ⟨_, rfl⟩
  rw [h, ← hu, one_eq (23 + u) (by omega), Nat.pow_add, ← Nat.mul_assoc]

theorem vr_c29 : vr c29 = 2000000000 * one := by
  have := vr_shift c9 1 (by decide)
  rw [show c9 + 1 * 4503599627370496 = c29 by decide, vr_c9, ← Nat.mul_assoc, show 2 ^ 1 * 1000000000 = 2000000000 by decide] at this
  exact this

/-- D are the seconds of e nanoseconds -/
def SecAt (e D : Nat) : Prop := ∃ S N Q, Near S (e / 1000000000 * one) 1 ∧ Near N (e % 1000000000 * one) 1 ∧ Near Q (vr N * one) (vr c9) ∧ Near D (vr S + vr Q) 1

theorem c9_pos : 0 < vr c9 := by rw [vr_c9]; exact Nat.mul_pos (by decide) one_pos

theorem sec_mono {e f D F : Nat} (h : SecAt e D) (g : SecAt f F) (hf : f ≤ 4611686018427387904) (hef : e ≤ f) : D ≤ F := by
  obtain ⟨S, N, Q, h1, h2, h3, h4⟩ := h
  obtain ⟨S', N', Q', g1, g2, g3, g4⟩ := g
  refine h4.mono g4 (by decide) (by decide) ?_
  rw [Nat.mul_one, Nat.mul_one, (near_small h1 (by omega)).1, (near_small g1 (by omega)).1]
  rcases Nat.lt_or_ge (e / 1000000000) (f / 1000000000) with hlt | hge
  · have hQ : Q ≤ oneR := by
      refine h3.le_of ?_ c9_pos
      rw [vr_one, vr_c9, (near_small h2 (by omega)).1, Nat.mul_comm]
      exact Nat.mul_le_mul_left _ (Nat.mul_le_mul_right _ (by omega))
    have := vr_mono hQ
    rw [vr_one] at this
    have h5 : (e / 1000000000 + 1) * one ≤ f / 1000000000 * one := Nat.mul_le_mul_right _ hlt
    rw [Nat.add_mul, Nat.one_mul] at h5
    omega
  · have he : e / 1000000000 = f / 1000000000 := by omega
    have hN : N ≤ N' := h2.mono g2 (by decide) (by decide) (by rw [Nat.mul_one, Nat.mul_one]; exact Nat.mul_le_mul_right _ (by omega))
    have hQ : Q ≤ Q' := h3.mono g3 c9_pos c9_pos (Nat.mul_le_mul_right _ (Nat.mul_le_mul_right _ (vr_mono hN)))
    have := vr_mono hQ
    rw [he]
    omega

theorem sec_fin {e D : Nat} (h : SecAt e D) (he : e ≤ 4611686018427387904) : D ≤ topR := by
  obtain ⟨S, N, Q, h1, h2, h3, h4⟩ := h
  refine h4.le_of ?_ (by decide)
  rw [Nat.mul_one, (near_small h1 (by omega)).1, vr_top]
  have hQ : Q ≤ oneR := by
    refine h3.le_of ?_ c9_pos
    rw [vr_one, vr_c9, (near_small h2 (by omega)).1, Nat.mul_comm]
    exact Nat.mul_le_mul_left _ (Nat.mul_le_mul_right _ (by omega))
  have := vr_mono hQ
  rw [vr_one] at this
  have h5 : (e / 1000000000 + 1) * one ≤ 18014398509481984 * one := Nat.mul_le_mul_right _ (by omega)
  rw [Nat.add_mul, Nat.one_mul] at h5
  omega

/-- the part below a second, times 2^30, is not less than its nanoseconds -/
theorem part_big {n N Q : Nat} (hn : n < 1000000000) (h2 : Near N (n * one) 1) (h3 : Near Q (vr N * one) (vr c9)) : n * one ≤ 1073741824 * vr Q := by
  obtain ⟨a, b, c⟩ := near_small h2 (by omega)
  rcases Nat.eq_zero_or_pos n with e | e
  · rw [e, Nat.zero_mul]; exact Nat.zero_le _
  · have hN := c e
    obtain ⟨k, hk⟩ : ∃ k, N = k + 30 * 4503599627370496 := ⟨N - 30 * 4503599627370496, by unfold oneR at hN; omega⟩
    have hk2 : 4503599627370496 ≤ k := by unfold oneR at hN; omega
    have h4 := vr_shift k 30 hk2
    rw [← hk, a, show 2 ^ 30 = 1073741824 by decide] at h4
    have h5 : k ≤ Q := by
      refine h3.ge (by unfold topR at b; unfold infR; omega) ?_ c9_pos
      rw [vr_c9, a, h4, Nat.mul_assoc, Nat.mul_left_comm (vr k) 1000000000 one]
      exact Nat.mul_le_mul_right _ (by decide)
    rw [h4]
    exact Nat.mul_le_mul_left _ (vr_mono h5)

theorem sec_big {e D E : Nat} (h : SecAt e D) (he : e ≤ 4611686018427387904) (h1e : 1 ≤ e) (hE : Near E (e * one) 1) : vr E ≤ 1073741824 * vr D := by
  obtain ⟨S, N, Q, h1, h2, h3, h4⟩ := h
  have hE1 := (near_fin hE (by omega)).2 h1e
  have hE2 := (near_fin hE (by omega)).1
  have hp := part_big (Nat.mod_lt _ (by decide)) h2 h3
  obtain ⟨k, hk⟩ : ∃ k, E = k + 30 * 4503599627370496 := ⟨E - 30 * 4503599627370496, by unfold oneR at hE1; omega⟩
  have hk2 : 4503599627370496 ≤ k := by unfold oneR at hE1; omega
  have h5 := vr_shift k 30 hk2
  rw [← hk, show 2 ^ 30 = 1073741824 by decide] at h5
  have h6 : k ≤ D := by
    refine h4.ge (by unfold infR; omega) ?_ (by decide)
    rw [Nat.mul_one]
    rw [(near_small h1 (by omega)).1]
    refine Nat.le_of_mul_le_mul_left (c := 1073741824) ?_ (by decide)
    rw [← h5, Nat.mul_add]
    rcases Nat.eq_zero_or_pos (e / 1000000000) with hs | hs
    · rw [hs, Nat.zero_mul, Nat.mul_zero, Nat.zero_add]
      rw [(near_small hE (by omega)).1]
      rw [show e % 1000000000 = e by omega] at hp
      exact hp
    · have h7 := near_up hE he
      have h8 : (e + 1024) * one ≤ (1073741824 * (e / 1000000000) + e % 1000000000) * one := Nat.mul_le_mul_right _ (by omega)
      rw [Nat.add_mul (1073741824 * (e / 1000000000)), Nat.mul_assoc 1073741824] at h8
      omega
  rw [h5]
  exact Nat.mul_le_mul_left _ (vr_mono h6)

/-- the tokens at 'now' -/
def HeldAt (t ρ burst : Nat) (last now : Int) (κ : Nat) : Prop := ∃ β, Near β (burst * one) 1 ∧
  ((now ≤ last ∧ κ = min β t) ∨ (last < now ∧ ∃ D M θ, SecAt (now - last).toNat D ∧ Near M (vr D * vr ρ) one ∧ Near θ (vr t + vr M) 1 ∧ κ = min β θ))

theorem near_unique {r s p q : Nat} (h : Near r p q) (g : Near s p q) (hq : 0 < q) : r = s := Nat.le_antisymm (h.mono g hq hq (Nat.le_refl _)) (g.mono h hq hq (Nat.le_refl _))

theorem held_mono {t ρ burst : Nat} {last now later : Int} {κ κ' : Nat} (ht : t ≤ infR) (h : HeldAt t ρ burst last now κ) (g : HeldAt t ρ burst last later κ') (h1 : now ≤ later) (h2 : later - last ≤ 4611686018427387904) : κ ≤ κ' := by
  obtain ⟨β, hb, h⟩ := h
  obtain ⟨β', hb', g⟩ := g
  obtain rfl := near_unique hb hb' (by decide)
  rcases h with ⟨a1, rfl⟩ | ⟨a1, D, M, θ, a2, a3, a4, rfl⟩
  · rcases g with ⟨c1, rfl⟩ | ⟨c1, D, M, θ, c2, c3, c4, rfl⟩
    · exact Nat.le_refl _
    · have : t ≤ θ := c4.ge ht (by omega) (by decide)
      omega
  · rcases g with ⟨c1, rfl⟩ | ⟨c1, D', M', θ', c2, c3, c4, rfl⟩
    · omega
    · have d1 : D ≤ D' := sec_mono a2 c2 (by omega) (by omega)
      have d2 : M ≤ M' := a3.mono c3 one_pos one_pos (Nat.mul_le_mul_right _ (Nat.mul_le_mul_right _ (vr_mono d1)))
      have d3 : θ ≤ θ' := a4.mono c4 (by decide) (by decide) (by have := vr_mono d2; omega)
      omega

/-- 'fills': after twice the time that the burst takes the bucket holds its burst -/
theorem held_fills {t ρ burst : Nat} {last now : Int} {κ β E P B : Nat} (h : HeldAt t ρ burst last now κ) (hb : Near β (burst * one) 1) (hbu : 1 ≤ burst) (hbl : burst ≤ 9223372036854775807)
    (hln : last < now) (h2 : now - last ≤ 4611686018427387904) (hE : Near E ((now - last).toNat * one) 1) (hP : Near P (vr E * vr ρ) one) (hB : Near B (vr c29 * vr β) one) (hBP : B ≤ P) : κ = β := by
  obtain ⟨β', hb', h⟩ := h
  obtain rfl := near_unique hb hb' (by decide)
  rcases h with ⟨a1, _⟩ | ⟨a1, D, M, θ, a2, a3, a4, rfl⟩
  · omega
  · obtain ⟨f1, f2⟩ := near_fin hb (by omega)
    have f2 := f2 hbu
    have hM : β ≤ M := by
      rcases Nat.lt_or_ge M β with hlt | hge
      · exfalso
        have n1 := (Decidable.not_iff_not.2 (a3.iff β (by unfold oneR at f2; omega) (by unfold infR; omega))).1 (by omega)
        have n2 : vr D * vr ρ ≤ vr β * one := by
          have : 2 * (vr D * vr ρ) ≤ thr β * one := by
            rcases Nat.lt_or_ge (thr β * one) (2 * (vr D * vr ρ)) with h | h
            · exact absurd (.inl h) n1
            · exact h
          have h3 : thr β * one ≤ (2 * vr β) * one := Nat.mul_le_mul_right _ (by unfold thr; have := vr_mono (Nat.sub_le β 1); omega)
          rw [Nat.mul_assoc 2 (vr β)] at h3
          omega
        have n3 := sec_big a2 (by omega) (by omega) hE
        have hβ : 4503599627370496 ≤ β := by unfold oneR at f2; omega
        have hkc := vr_shift β 30 hβ
        rw [show 2 ^ 30 = 1073741824 by decide] at hkc
        have n4 : P ≤ β + 30 * 4503599627370496 := by
          refine hP.le_of ?_ one_pos
          rw [hkc, Nat.mul_assoc]
          refine Nat.le_trans (Nat.mul_le_mul_right _ n3) ?_
          rw [Nat.mul_assoc]
          exact Nat.mul_le_mul_left _ n2
        have n5 : β + 1 + 30 * 4503599627370496 ≤ B := by
          refine hB.ge (by unfold infR; omega) ?_ one_pos
          rw [vr_shift _ _ (by omega), show 2 ^ 30 = 1073741824 by decide, vr_c29]
          have : 1073741824 * vr (β + 1) ≤ 2000000000 * vr β := by
            have e1 : β = (β / 4503599627370496 - 1) * 4503599627370496 + (4503599627370496 + β % 4503599627370496) := by omega
            have v1 := vr_at (β / 4503599627370496 - 1) (4503599627370496 + β % 4503599627370496) (by omega) (.inr (by omega))
            have v2 := vr_at (β / 4503599627370496 - 1) (4503599627370496 + β % 4503599627370496 + 1) (by omega) (.inr (by omega))
            rw [← e1] at v1
            rw [← Nat.add_assoc, ← e1] at v2
            rw [v1, v2, ← Nat.mul_assoc, ← Nat.mul_assoc]
            exact Nat.mul_le_mul_right _ (by omega)
          have h7 := Nat.mul_le_mul_right one this
          rw [Nat.mul_right_comm 2000000000 one]
          exact h7
        omega
      · exact hge
    have hθ : M ≤ θ := a4.ge a3.le (by omega) (by decide)
    omega

end Go.Proofs.Qxb6604567a
