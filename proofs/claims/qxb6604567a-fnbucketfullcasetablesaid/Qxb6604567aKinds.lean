/-
  the wait: plain laws; 'ZZdelay'; which way a held count goes.
-/
import Derived.Test.Qxb6604567aWait
namespace Go.Proofs.Qxb6604567a
open Go.RowKit Ieee

theorem step63 {k : Nat} (h : k < r63) : vr (k + 1) ≤ vr k + 1024 * one := by
  obtain ⟨E, c, e, h1, h2, h3⟩ := rung_form (k + 1) (by omega)
  have v1 := vr_at E c h2 (h3.imp id Nat.le_of_lt)
  have v2 := vr_at E (c - 1) (by omega) (h3.imp id (by omega))
  rw [← e] at v1
  rw [show E * 4503599627370496 + (c - 1) = k by omega] at v2
  have hE : E ≤ 1084 := by unfold r63 at h; rcases h3 with h3 | h3 <;> omega
  obtain ⟨u, hu⟩ : ∃ u : Nat, u = 1074 := ⟨_, rfl⟩
  have h6 : 2 ^ E ≤ 1024 * one := by
    rw [one_eq u hu, show (1024 : Nat) = 2 ^ 10 by decide, ← Nat.pow_add]
    exact Nat.pow_le_pow_right (by decide) (by omega)
  have h7 := Nat.add_mul (c - 1) 1 (2 ^ E)
  rw [Nat.sub_add_cancel h1, Nat.one_mul] at h7
  rw [v1, v2, h7]
  omega

theorem lt63 {ν M : Nat} (hν : vr ν = M * one) (hM : M < 9223372036854775808) : ν < r63 := by
  rcases Nat.lt_or_ge ν r63 with h | h
  · exact h
  · have a := vr_mono h
    rw [vr_r63, hν] at a
    have := Nat.mul_lt_mul_of_pos_right hM one_pos
    omega

theorem below_near {φ ν M K : Nat} (h : Near φ (K * one) 1) (hν : vr ν = M * one) (hM : M + 1024 ≤ K) (hK : K ≤ 9223372036854775807) : ν < φ := by
  have hl := lt63 hν (by omega)
  refine h.ge (k := ν + 1) (by unfold r63 at hl; unfold infR; omega) ?_ (by decide)
  rw [Nat.mul_one]
  have := step63 hl
  rw [hν] at this
  have h2 := Nat.mul_le_mul_right one hM
  rw [Nat.add_mul] at h2
  omega

theorem IsCeil.unique {χ M N : Nat} (h : IsCeil χ M) (g : IsCeil χ N) : M = N := by
  have a1 : M * one < (N + 1) * one := by rw [Nat.add_mul, Nat.one_mul]; have := h.lt; have := g.le; omega
  have a2 : N * one < (M + 1) * one := by rw [Nat.add_mul, Nat.one_mul]; have := g.lt; have := h.le; omega
  have b1 := Nat.lt_of_mul_lt_mul_right a1
  have b2 := Nat.lt_of_mul_lt_mul_right a2
  omega

theorem vr_inj {a b : Nat} (h : vr a = vr b) : a = b := Nat.le_antisymm (vr_le_iff.1 (Nat.le_of_eq h)) (vr_le_iff.1 (Nat.le_of_eq h.symm))

/-- the two ways of a wait, with one whole number -/
theorem wait_two {χ u : Nat} {r : Int} (h : WaitIs χ u r) (_ : u ≤ 4611686018427387904) (hf : χ < infR) : ∃ M ν φ, IsCeil χ M ∧ vr ν = M * one ∧ Near φ ((9223372036854775807 - u) * one) 1 ∧
    ((ν < φ ∧ M ≤ 9223372036854775807 - u ∧ r = (u : Int) + M) ∨ (φ ≤ ν ∧ r = 9223372036854775807)) := by
  obtain ⟨φ, nφ, ⟨M, ν, _, h1, h2, h3, h4⟩ | ⟨h0 | ⟨M, ν, _, h1, h2, h3⟩, h4⟩⟩ := h
  · exact ⟨M, ν, φ, h1, h2, nφ, .inl ⟨h3, fits nφ h2 h3, h4⟩⟩
  · omega
  · exact ⟨M, ν, φ, h1, h2, nφ, .inr ⟨h3, h4⟩⟩

theorem wait_never {χ u : Nat} {r : Int} (h : WaitIs χ u r) (hu : u ≤ 4611686018427387904) (hx : r63 ≤ χ) : r = 9223372036854775807 := by
  rcases Nat.lt_or_ge χ infR with hf | hf
  · obtain ⟨M, ν, φ, h1, h2, h3, ⟨_, h5, _⟩ | ⟨_, h4⟩⟩ := wait_two h hu hf
    · have a := vr_mono hx
      rw [vr_r63] at a
      have b : 9223372036854775808 * one ≤ M * one := Nat.le_trans a h1.le
      have := Nat.le_of_mul_le_mul_right b one_pos
      omega
    · exact h4
  · obtain ⟨φ, nφ, ⟨M, ν, h0, h1, h2, h3, h4⟩ | ⟨h0, h4⟩⟩ := h
    · omega
    · exact h4

theorem ceil_pos {χ M : Nat} (h : IsCeil χ M) (h0 : 0 < χ) : 1 ≤ M := by
  have a := vr_strict h0
  have b := h.le
  rcases Nat.eq_zero_or_pos M with e | e
  · rw [e, Nat.zero_mul] at b
    omega
  · exact e

/-- below 2^52 -/
theorem wait_small {χ u : Nat} {r : Int} (h : WaitIs χ u r) (hu : u ≤ 4611686018427387904) (hx : χ < r52) : ∃ M : Nat, IsCeil χ M ∧ M ≤ 4503599627370496 ∧ r = (u : Int) + M := by
  obtain ⟨M, ν, φ, h1, h2, h3, ⟨_, _, h5⟩ | ⟨h4, _⟩⟩ := wait_two h hu (by unfold r52 at hx; unfold infR; omega)
  · exact ⟨M, h1, h1.small hx, h5⟩
  · have hM := h1.small hx
    have := below_near h3 h2 (by omega) (by omega)
    omega

/-- from 2^52 to 2^63 -/
theorem wait_great {χ u : Nat} {r : Int} (h : WaitIs χ u r) (hu : u ≤ 4611686018427387904) (hx : r52 ≤ χ) (hx2 : χ < r63) : ∃ M : Nat, vr χ = M * one ∧ 4503599627370496 ≤ M ∧ M < 9223372036854775808 ∧
    ((M : Int) ≤ 9223372036854775807 - u - 1024 → r = (u : Int) + M) ∧ (r = 9223372036854775807 ∨ (r = (u : Int) + M ∧ (u : Int) + M ≤ 9223372036854775807)) := by
  obtain ⟨M, ν, φ, h1, h2, h3, h4⟩ := wait_two h hu (by unfold r63 at hx2; unfold infR; omega)
  have e := h1.whole hx
  have a := vr_strict hx2
  have a2 := vr_mono hx
  rw [vr_r63, e] at a
  rw [vr_r52, e] at a2
  have hM := Nat.lt_of_mul_lt_mul_right a
  have hM2 := Nat.le_of_mul_le_mul_right a2 one_pos
  refine ⟨M, e, hM2, hM, fun hle => ?_, ?_⟩
  · have := below_near h3 h2 (by omega) (by omega)
    rcases h4 with ⟨_, _, h5⟩ | ⟨h5, _⟩
    · exact h5
    · omega
  · rcases h4 with ⟨_, h5, h6⟩ | ⟨_, h6⟩
    · exact .inr ⟨h6, by omega⟩
    · exact .inl h6

theorem wait_unique {χ u : Nat} {r s : Int} (h : WaitIs χ u r) (g : WaitIs χ u s) (hu : u ≤ 4611686018427387904) : r = s := by
  rcases Nat.lt_or_ge χ infR with hf | hf
  · obtain ⟨M, ν, φ, h1, h2, h3, h4⟩ := wait_two h hu hf
    obtain ⟨N, μ, ψ, g1, g2, g3, g4⟩ := wait_two g hu hf
    obtain rfl := h1.unique g1
    obtain rfl := near_unique h3 g3 (by decide)
    obtain rfl := vr_inj (h2.trans g2.symm)
    omega
  · rw [wait_never h hu (Nat.le_trans (by decide) hf), wait_never g hu (Nat.le_trans (by decide) hf)]

/-- the wait ahead of the last write against the wait at it -/
theorem wait_shift {χ u : Nat} {r s : Int} (h : WaitIs χ u r) (g : WaitIs χ 0 s) (hu : u ≤ 4611686018427387904) (hu0 : 0 < u) :
    (s = 9223372036854775807 → r = 9223372036854775807) ∧ (s ≤ 9223372036854775807 - u - 1024 → r = (u : Int) + s) ∧ (r = 9223372036854775807 ∨ (r = (u : Int) + s ∧ (u : Int) + s ≤ 9223372036854775807)) ∧ 0 ≤ s ∧ s ≤ 9223372036854775807 := by
  rcases Nat.lt_or_ge χ infR with hf | hf
  · obtain ⟨M, ν, φ, h1, h2, h3, h4⟩ := wait_two h hu hf
    obtain ⟨N, μ, ψ, g1, g2, g3, g4⟩ := wait_two g (by omega) hf
    obtain rfl := h1.unique g1
    obtain rfl := vr_inj (h2.trans g2.symm)
    have hmono : φ ≤ ψ := h3.mono g3 (by decide) (by decide) (by rw [Nat.mul_one, Nat.mul_one]; exact Nat.mul_le_mul_right _ (by omega))
    have hb : M + 1024 ≤ 9223372036854775807 - u → ν < φ := fun hh => below_near h3 h2 hh (by omega)
    rcases h4 with ⟨p1, p2, p3⟩ | ⟨p1, p2⟩ <;> rcases g4 with ⟨q1, q2, q3⟩ | ⟨q1, q2⟩
    · refine ⟨?_, ?_, ?_, ?_, ?_⟩ <;> omega
    · omega
    · refine ⟨fun hh => p2, fun hh => ?_, .inl p2, by omega, by omega⟩
      have := hb (by omega)
      omega
    · refine ⟨?_, ?_, ?_, ?_, ?_⟩ <;> omega
  · have e1 := wait_never h hu (Nat.le_trans (by decide) hf)
    have e2 := wait_never g (by omega) (Nat.le_trans (by decide) hf)
    refine ⟨?_, ?_, ?_, ?_, ?_⟩ <;> omega

/-! ### which way -/
def tame : Nat := 9110782046170513408

theorem rg_tame : Rg 9110782046170513408 tame := rg_self _ (by decide)

theorem tame_le : vr tame ≤ vr 4368491638549381120 * one := by
  obtain ⟨u, hu⟩ : ∃ u : Nat, u = 969 := ⟨_, rfl⟩
  have v3 := vr_at u 4503599627370496 (by decide) (.inr (by decide))
  rw [show u * 4503599627370496 + 4503599627370496 = 4368491638549381120 by omega] at v3
  have v4 := vr_shift oneR (u + 31) (by decide)
  rw [show oneR + (u + 31) * 4503599627370496 = tame by unfold oneR tame; omega, vr_one] at v4
  rw [v3, v4]
  refine Nat.mul_le_mul_right _ ?_
  rw [show (4503599627370496 : Nat) = 2 ^ 52 by decide, ← Nat.pow_add]
  exact Nat.pow_le_pow_right (by decide) (by omega)

/-- the chain of three operations up to x -/
structure Chain (n : Int) (held rate zs zd zx χ : Nat) : Prop where
  sub : double.sub (floatOfInt .f64 n) held = some zs
  div : double.div zs rate = some zd
  mul : double.mul zd 4741671816366391296 = some zx
  rg : Rg zx χ
  pos : ∃ σ, Rg zs σ ∧ 0 < σ

theorem kinds {last : Int} {rate : Nat} {burst now : Int} {ρ : Nat} (hd : Dom last rate burst now ρ) (held : Nat) (n : Int) (hb : burst ≤ 9223372036854775807) :
    ¬ (1 ≤ n ∧ n ≤ burst) ∨ ((1 ≤ n ∧ n ≤ burst) ∧
    ((∃ z, double.sub (floatOfInt .f64 n) held = some z ∧ (double.order z 0 = some .lt ∨ double.order z 0 = some .eq) ∧ (FloatKind.f64.format.order held (floatOfInt .f64 n) == some .gt || FloatKind.f64.format.order held (floatOfInt .f64 n) == some .eq) = true) ∨
     ((FloatKind.f64.format.order held (floatOfInt .f64 n) == some .gt || FloatKind.f64.format.order held (floatOfInt .f64 n) == some .eq) = false ∧
      (double.sub (floatOfInt .f64 n) held = none ∨ ∃ zs zd zx χ, Chain n held rate zs zd zx χ ∧ (ρ ≤ tame → 0 < χ))))) := by
  by_cases hn : 1 ≤ n ∧ n ≤ burst
  · refine .inr ⟨hn, ?_⟩
    obtain ⟨N, rfl⟩ : ∃ N : Nat, n = N := ⟨n.toNat, by omega⟩
    obtain ⟨a, ha, na⟩ := rg_int N
    obtain ⟨f1, f2⟩ := near_fin na (by omega)
    have e : ∀ y, FloatKind.f64.format.order held y = double.order held y := fun _ => rfl
    rcases short_cases _ held a ha (f2 (by omega)) (by unfold infR; omega) with ⟨h1, h2⟩ | ⟨z, h1, h2, h3⟩ | ⟨zs, σ, h1, h2, h3, h4⟩
    · refine .inr ⟨?_, .inl h1⟩
      rw [e, h2]
      rfl
    · refine .inl ⟨z, h1, h2, ?_⟩
      rw [e]
      rcases h3 with h3 | h3 <;> rw [h3] <;> rfl
    · refine .inr ⟨?_, .inr ?_⟩
      · rw [e, h4]
        rfl
      · obtain ⟨zd, δ, d1, d2, d3, d4⟩ := rg_div_any h2 hd.rg hd.fin hd.pos
        obtain ⟨zx, χ, x1, x2, x3, x4⟩ := rg_mul_any d2 rg_c9 (by decide) (by decide)
        refine ⟨zs, zd, zx, χ, ⟨h1, d1, x1, x2, σ, h2, by omega⟩, fun ht => ?_⟩
        have hδ : 1 ≤ δ := by
          rcases Nat.eq_or_lt_of_le h2.le with e | hl
          · rw [d4 e]
            decide
          · refine (d3 hl).ge (by decide) ?_ (by have := vr_strict hd.pos; omega)
            have v1 : vr 1 = 1 := by decide
            rw [v1, Nat.one_mul]
            exact Nat.le_trans (vr_mono ht) (Nat.le_trans tame_le (Nat.mul_le_mul_right _ (vr_mono h3)))
        rcases Nat.eq_or_lt_of_le d2.le with e | hl
        · rw [x4 e]
          decide
        · refine (x3 hl).ge (k := 1) (by decide) ?_ one_pos
          have v1 : vr 1 = 1 := by decide
          have v2 := vr_mono hδ
          rw [v1] at v2
          rw [v1, vr_c9]
          exact Nat.mul_le_mul v2 (Nat.le_mul_of_pos_left _ (by decide))
  · exact .inl hn

set_option maxHeartbeats 1000000 in
theorem zzdelay_any (tokens : Nat) (last : Int) (rate : Nat) (burst now : Int) (held : Nat) (n r : Int)
    (hc : ∀ (b : Nat) (w : World), BucketAt w b tokens last → Calls Try.prog 14 #[.pointer (some ⟨b, 0, none⟩), .agg #[.float .f64 rate, .int .i64 burst], .int .i64 now, .float .f64 held, .int .i64 n] w fun e w' => e = .returned (.int .i64 r) ∧ Below w.heap.size w w') (w : World) :
    Calls Try.prog 10 #[.float .f64 tokens, .int .i64 last, .float .f64 rate, .int .i64 burst, .int .i64 now, .float .f64 held, .int .i64 n] w fun e w' => e = .returned (.int .i64 r) ∧ Below w.heap.size w w' := by
  have hBel : Below w.heap.size w (w.alloc (.cells #[.float .f64 tokens, .int .i64 last] 32)) := (Below.refl _ _).alloc (Nat.le_refl _) _
  have hK : (w.alloc (.cells #[.float .f64 tokens, .int .i64 last] 32)).heap[w.heap.size]? = some (.cells #[.float .f64 tokens, .int .i64 last] 32 (0, 0)) := heap_alloc_new w _
  have HT : Hid (Calls _ _ _ _ _) := hc w.heap.size _ ⟨cell_of_row _ _ 0 _ _ _ hK, cell_of_row _ _ 1 _ _ _ hK, (Array.getElem?_eq_some_iff.1 hK).1⟩
  have HB : Hid (Below _ _ _) := hBel
  clear hc hK hBel
  go_enter Try.func10, Try.ntmps10
  go_wp2_with fail
  refine HT.out.mono ?_
  rintro e w1 ⟨rfl, hb⟩
  have HB1 : Hid (Below _ _ _) := HB.out.trans (hb.mono HB.out.size)
  clear hb HB
  go_wp2
  go_ret
  exact ⟨rfl, HB1.out⟩

end Go.Proofs.Qxb6604567a
