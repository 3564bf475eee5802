/-
  'FnDelayExact': the walk.
-/
import Derived.Test.Qxb6604567aKinds
namespace Go.Proofs.Qxb6604567a
open Go.RowKit Ieee

theorem rg_le {x y a b : Nat} (h : Rg x a) (g : Rg y b) : (FloatKind.f64.format.order x y == some .lt || FloatKind.f64.format.order x y == some .eq) = decide (a ≤ b) := by
  have ho : FloatKind.f64.format.order x y = some (compare a b) := h.order g
  rw [ho]
  rcases Nat.lt_trichotomy a b with hl | hl | hl
  · rw [Nat.compare_eq_lt.2 hl, decide_eq_true (by omega)]; rfl
  · rw [Nat.compare_eq_eq.2 hl, decide_eq_true (by omega)]; rfl
  · rw [Nat.compare_eq_gt.2 hl, decide_eq_false (by omega)]; rfl

theorem rg_ge' {x y a b : Nat} (h : Rg x a) (g : Rg y b) : (FloatKind.f64.format.order x y == some .gt || FloatKind.f64.format.order x y == some .eq) = decide (b ≤ a) := by
  have ho : FloatKind.f64.format.order x y = some (compare a b) := h.order g
  rw [ho]
  rcases Nat.lt_trichotomy a b with hl | hl | hl
  · rw [Nat.compare_eq_lt.2 hl, decide_eq_false (by omega)]; rfl
  · rw [Nat.compare_eq_eq.2 hl, decide_eq_true (by omega)]; rfl
  · rw [Nat.compare_eq_gt.2 hl, decide_eq_true (by omega)]; rfl

theorem rg_r52 : Rg 4841369599423283200 r52 := rg_self _ (by decide)
theorem rg_r63 : Rg 4890909195324358656 r63 := rg_self _ (by decide)

theorem ahead_le' {last : Int} {rate : Nat} {burst now : Int} {ρ : Nat} (hd : Dom last rate burst now ρ) : ahead last now ≤ 4611686018427387904 := by
  have := hd.l2
  have := hd.n1
  unfold ahead
  omega

set_option maxHeartbeats 4000000 in
set_option maxRecDepth 100000 in
theorem exact_any (tokens : Nat) (last : Int) (rate : Nat) (burst now : Int) (held : Nat) (n : Int) (w : World) (hb : burst ≤ 9223372036854775807) :
    Calls Try.prog 5 #[.float .f64 tokens, .int .i64 last, .float .f64 rate, .int .i64 burst, .int .i64 now, .float .f64 held, .int .i64 n] w fun e w' => e = .returned (.bool true) ∧ Below w.heap.size w w' := by
  have HB0 : Hid (Below w.heap.size w w) := Below.refl _ _
  go_enter Try.func5, Try.ntmps5
  go_wp2_with fail
  refine (delayDomain_any last rate burst now w).mono ?_
  rintro e w1 ⟨⟨b, rfl, hdom⟩, rfl⟩
  cases b with
  | false =>
    clear hdom
    go_wp2
    go_ret
    exact ⟨rfl, HB0.out⟩
  | true =>
  obtain ⟨ρ, hd⟩ := hdom rfl
  clear hdom HB0
  have hl1 := hd.l1
  have hl2 := hd.l2
  have hn1 := hd.n1
  have hn2 := hd.n2
  rcases kinds hd held n hb with hn | ⟨hn, ⟨z, k1, k2, k3⟩ | ⟨k0, k1 | ⟨zs, zd, zx, χ, hch, htame⟩⟩⟩
  · -- refused
    have H1 : Hid _ := zzdelay_any tokens last rate burst now held n _ (fun b w _ => delay_refused rate burst now held n hn b w)
    clear hd
    go_wp2_with fail
    refine (H1.out _).mono ?_
    rintro e v1 ⟨rfl, hv1⟩
    have HB1 : Hid (Below _ _ _) := hv1
    clear hv1 H1
    by_cases h1 : n < 1
    · clear hn
      go_wp2
      go_ret
      exact ⟨rfl, HB1.out⟩
    · have h2 : burst < n := by omega
      clear hn
      go_wp2
      go_ret
      exact ⟨rfl, HB1.out⟩
  · -- held
    have H1 : Hid _ := zzdelay_any tokens last rate burst now held n _ (fun b w _ => delay_held rate burst now held n hn z k1 k2 b w)
    clear hd k1 k2
    obtain ⟨hn1, hn2⟩ := hn
    go_wp2_with fail
    refine (H1.out _).mono ?_
    rintro e v1 ⟨rfl, hv1⟩
    have HB1 : Hid (Below _ _ _) := hv1
    clear hv1 H1
    go_wp2
    go_ret
    exact ⟨rfl, HB1.out⟩
  · -- NaN
    have H1 : Hid _ := zzdelay_any tokens last rate burst now held n _ (fun b w hw => delay_nan tokens last rate burst now held n ρ hd hn k1 b w hw)
    have n1 := nan_arith (op := .sub) (.inr (.inl rfl)) k1
    have n2 : ∀ v x y c, FloatKind.f64.format.order (nanW v x y) c = none := fun v x y c => nan_order (nanW_nan v x y) c
    have n3 := nan_quo
    have n4 := nan_mul
    clear hd k1
    obtain ⟨hn1', hn2'⟩ := hn
    go_wp2_with fail
    refine (H1.out _).mono ?_
    rintro e v1 ⟨rfl, hv1⟩
    have HB1 : Hid (Below _ _ _) := hv1
    clear hv1 H1
    by_cases hnl : last < now
    · go_wp2
      go_ret
      exact ⟨rfl, HB1.out.trans ((show Below v1.heap.size v1 v1.drew.drew.drew from ⟨rfl, rfl, rfl, Nat.le_refl _, fun _ _ => rfl⟩).mono HB1.out.size)⟩
    · go_wp2
      go_ret
      exact ⟨rfl, HB1.out.trans ((show Below v1.heap.size v1 v1.drew.drew.drew from ⟨rfl, rfl, rfl, Nat.le_refl _, fun _ _ => rfl⟩).mono HB1.out.size)⟩
  · -- a wait
    obtain ⟨σ, hσ, hσ0⟩ := hch.pos
    obtain ⟨r, hr, hcr⟩ := delay_wait tokens last rate burst now held n ρ hd hn zs zd zx σ χ hch.sub hσ hσ0 hch.div hch.mul hch.rg
    have H1 : Hid _ := zzdelay_any tokens last rate burst now held n r hcr
    have a1 := arith (op := .sub) hch.sub
    have a2 := arith (op := .quo) hch.div
    have a3 := arith (op := .mul) hch.mul
    have c1 := rg_lt hch.rg rg_r63
    have c2 := rg_lt hch.rg rg_r52
    have c3 := rg_le hd.rg rg_tame
    have hu := ahead_le' hd
    have HX : Hid (Rg zx χ) := hch.rg
    have HR : Hid (WaitIs _ _ _) := hr
    obtain ⟨u, hud⟩ : ∃ u : Int, u = last - now := ⟨_, rfl⟩
    have hau : ((ahead last now : Nat) : Int) = if last < now then 0 else last - now := by unfold ahead; split <;> omega
    generalize ahead last now = U at *
    clear hd hch hcr hr hσ
    obtain ⟨hn1', hn2'⟩ := hn
    go_wp2_with fail
    refine (H1.out _).mono ?_
    rintro e v1 ⟨rfl, hv1⟩
    have HB1 : Hid (Below _ _ _) := hv1
    clear hv1 H1
    by_cases hx63 : χ < r63
    · rw [decide_eq_true hx63] at c1
      by_cases hx52 : χ < r52
      · rw [decide_eq_true hx52] at c2
        obtain ⟨M, hM, hMl, hre⟩ := wait_small HR.out hu hx52
        obtain ⟨μ, hμ, nμ⟩ := rg_int M
        have vμ := (near_small nμ (by omega)).1
        have g1 := rg_ge' hμ HX.out
        rw [decide_eq_true (vr_le_iff.1 (by rw [vμ]; exact hM.le))] at g1
        have g2 : Hid (1 ≤ M → (FloatKind.f64.format.order (floatOfInt .f64 ((M : Int) - 1)) zx == some .lt) = true) := fun h1 => by
          obtain ⟨μ', hμ', nμ'⟩ := rg_int (M - 1)
          have vμ' := (near_small nμ' (by omega)).1
          rw [show ((M - 1 : Nat) : Int) = (M : Int) - 1 by omega] at hμ'
          rw [rg_lt hμ' HX.out]
          refine decide_eq_true ?_
          rcases Nat.lt_or_ge μ' χ with hl | hl
          · exact hl
          · have a := vr_mono hl
            rw [vμ'] at a
            have b := hM.lt
            have c := Nat.add_mul (M - 1) 1 one
            rw [Nat.sub_add_cancel h1, Nat.one_mul] at c
            omega
        have HM : Hid (ρ ≤ tame → 1 ≤ M) := fun h => ceil_pos hM (htame h)
        clear hM hμ nμ vμ htame HX HR hx52 hx63
        by_cases hnl : last < now
        · rw [if_pos hnl] at hau
          obtain rfl : r = (M : Int) := by omega
          clear hre hau
          by_cases ht : ρ ≤ tame
          · rw [decide_eq_true ht] at c3
            have h1 := HM.out ht
            have h2 := g2.out h1
            have h3 : ((M : Int) == 0) = false := by rw [beq_eq_false_iff_ne]; omega
            have h4 : (1 : Int) ≤ (M : Int) := by omega
            clear HM g2
            go_wp2
            go_ret
            exact ⟨rfl, HB1.out⟩
          · rw [decide_eq_false ht] at c3
            clear HM
            rcases Nat.eq_zero_or_pos M with h0 | h0
            · subst h0
              have g1 : (FloatKind.f64.format.order (floatOfInt .f64 0) zx == some .gt || FloatKind.f64.format.order (floatOfInt .f64 0) zx == some .eq) = true := g1
              clear g2
              go_wp2
              go_ret
              exact ⟨rfl, HB1.out⟩
            · have h2 := g2.out h0
              have h3 : ((M : Int) == 0) = false := by rw [beq_eq_false_iff_ne]; omega
              have h4 : (1 : Int) ≤ (M : Int) := by omega
              clear g2
              go_wp2
              go_ret
              exact ⟨rfl, HB1.out⟩
        · rw [if_neg hnl] at hau
          obtain rfl : r = last - now + (M : Int) := by omega
          have hdd : last - now + (M : Int) - (last - now) = M := by omega
          clear hre hau
          by_cases ht : ρ ≤ tame
          · rw [decide_eq_true ht] at c3
            have h1 := HM.out ht
            have h2 := g2.out h1
            have h3 : ((M : Int) == 0) = false := by rw [beq_eq_false_iff_ne]; omega
            have h4 : (1 : Int) ≤ (M : Int) := by omega
            clear HM g2
            go_wp2
            go_ret
            exact ⟨rfl, HB1.out⟩
          · rw [decide_eq_false ht] at c3
            clear HM
            rcases Nat.eq_zero_or_pos M with h0 | h0
            · subst h0
              have g1 : (FloatKind.f64.format.order (floatOfInt .f64 0) zx == some .gt || FloatKind.f64.format.order (floatOfInt .f64 0) zx == some .eq) = true := g1
              clear g2
              go_wp2
              go_ret
              exact ⟨rfl, HB1.out⟩
            · have h2 := g2.out h0
              have h3 : ((M : Int) == 0) = false := by rw [beq_eq_false_iff_ne]; omega
              have h4 : (1 : Int) ≤ (M : Int) := by omega
              clear g2
              go_wp2
              go_ret
              exact ⟨rfl, HB1.out⟩
      · rw [decide_eq_false hx52] at c2
        obtain ⟨M, hvM, hM1, hM2, hM3, hM4⟩ := wait_great HR.out hu (by omega) hx63
        have a5 : ∀ w, (convert 22 2 (.float .f64 zx)).run Try.prog w = .ok (.int .i64 M) w := fun w => run_convert_float_int w 22 2 .f64 .i64 zx M (by kernel_rfl) (by kernel_rfl) (int_of_rg HX.out hvM hM2)
        have m1 : (4503599627370496 : Int) ≤ (M : Int) := by omega
        have m2 : (M : Int) < 9223372036854775808 := by omega
        generalize decide (ρ ≤ tame) = tb at c3
        clear hvM HX HR hx52 hx63 htame hM1 hM2
        generalize (M : Int) = m at *
        by_cases hnl : last < now
        · rw [if_pos hnl] at hau
          rw [hau] at hM3 hM4
          simp only [Int.sub_zero, Int.zero_add] at hM3 hM4
          have hM3 : m ≤ 9223372036854774783 → r = m := hM3
          clear hau
          by_cases hc : m ≤ 9223372036854774783
          · obtain rfl := hM3 hc
            clear hM3 hM4
            cases tb <;> (go_wp2; go_ret; exact ⟨rfl, HB1.out⟩)
          · clear hM3
            rcases hM4 with rfl | ⟨rfl, h5⟩
            · cases tb <;> (go_wp2; go_ret; exact ⟨rfl, HB1.out⟩)
            · by_cases hE : r = 9223372036854775807
              · cases tb <;> (go_wp2; go_ret; exact ⟨rfl, HB1.out⟩)
              · cases tb <;> (go_wp2; go_ret; exact ⟨rfl, HB1.out⟩)
        · rw [if_neg hnl] at hau
          rw [hau] at hM3 hM4
          clear hau
          by_cases hc : m ≤ 9223372036854775807 - (last - now) - 1024
          · obtain rfl := hM3 hc
            clear hM3 hM4
            cases tb <;> (go_wp2; go_ret; exact ⟨rfl, HB1.out⟩)
          · clear hM3
            rcases hM4 with rfl | ⟨rfl, h5⟩
            · cases tb <;> (go_wp2; go_ret; exact ⟨rfl, HB1.out⟩)
            · by_cases hE : last - now + m = 9223372036854775807
              · cases tb <;> (go_wp2; go_ret; exact ⟨rfl, HB1.out⟩)
              · cases tb <;> (go_wp2; go_ret; exact ⟨rfl, HB1.out⟩)
    · rw [decide_eq_false hx63] at c1
      obtain rfl := wait_never HR.out hu (by omega)
      by_cases hnl : last < now
      · go_wp2
        go_ret
        exact ⟨rfl, HB1.out⟩
      · go_wp2
        go_ret
        exact ⟨rfl, HB1.out⟩

end Go.Proofs.Qxb6604567a
