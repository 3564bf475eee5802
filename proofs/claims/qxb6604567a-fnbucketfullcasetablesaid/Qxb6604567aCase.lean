/-
  'ZZtokensAt'; 'FnBucketFullCaseTable': the walk.
-/
import Derived.Test.Qxb6604567aFull
import Derived.Test.Qxb6604567aKinds
namespace Go.Proofs.Qxb6604567a
open Go.RowKit Ieee

theorem rg_leq {x y a b : Nat} (h : Rg x a) (g : Rg y b) : (FloatKind.f64.format.order x y == some .lt || FloatKind.f64.format.order x y == some .eq) = decide (a ≤ b) := by
  have ho : FloatKind.f64.format.order x y = some (compare a b) := h.order g
  rw [ho]
  rcases Nat.lt_trichotomy a b with hl | hl | hl
  · rw [Nat.compare_eq_lt.2 hl, decide_eq_true (by omega)]; rfl
  · rw [Nat.compare_eq_eq.2 hl, decide_eq_true (by omega)]; rfl
  · rw [Nat.compare_eq_gt.2 hl, decide_eq_false (by omega)]; rfl

theorem rg_gt {x y a b : Nat} (h : Rg x a) (g : Rg y b) : (FloatKind.f64.format.order x y == some .gt) = decide (b < a) := by
  have ho : FloatKind.f64.format.order x y = some (compare a b) := h.order g
  rw [ho]
  rcases Nat.lt_trichotomy a b with hl | hl | hl
  · rw [Nat.compare_eq_lt.2 hl, decide_eq_false (by omega)]; rfl
  · rw [Nat.compare_eq_eq.2 hl, decide_eq_false (by omega)]; rfl
  · rw [Nat.compare_eq_gt.2 hl, decide_eq_true (by omega)]; rfl

theorem rg_eq {x y a b : Nat} (h : Rg x a) (g : Rg y b) : (FloatKind.f64.format.order x y == some .eq) = decide (a = b) := by
  have ho : FloatKind.f64.format.order x y = some (compare a b) := h.order g
  rw [ho]
  rcases Nat.lt_trichotomy a b with hl | hl | hl
  · rw [Nat.compare_eq_lt.2 hl, decide_eq_false (by omega)]; rfl
  · rw [Nat.compare_eq_eq.2 hl, decide_eq_true (by omega)]; rfl
  · rw [Nat.compare_eq_gt.2 hl, decide_eq_false (by omega)]; rfl

set_option maxHeartbeats 1000000 in
theorem zztokens_any (tokens : Nat) (last : Int) (rate : Nat) (burst now : Int) (τ ρ : Nat) (hτ : Rg tokens τ) (hd : Dom last rate burst now ρ) :
    ∃ z κ, Rg z κ ∧ HeldAt τ ρ burst.toNat last now κ ∧ ∀ (w : World),
      Calls Try.prog 9 #[.float .f64 tokens, .int .i64 last, .float .f64 rate, .int .i64 burst, .int .i64 now] w fun e w' => e = .returned (.float .f64 z) ∧ Below w.heap.size w w' := by
  obtain ⟨z, κ, hz, hk, hc⟩ := tokensAt_any tokens last rate burst now τ ρ hτ hd
  refine ⟨z, κ, hz, hk, fun w => ?_⟩
  have hBel : Below w.heap.size w (w.alloc (.cells #[.float .f64 tokens, .int .i64 last] 32)) := (Below.refl _ _).alloc (Nat.le_refl _) _
  have hK : (w.alloc (.cells #[.float .f64 tokens, .int .i64 last] 32)).heap[w.heap.size]? = some (.cells #[.float .f64 tokens, .int .i64 last] 32 (0, 0)) := heap_alloc_new w _
  have HT : Hid (Calls _ _ _ _ _) := hc w.heap.size _ ⟨cell_of_row _ _ 0 _ _ _ hK, cell_of_row _ _ 1 _ _ _ hK, (Array.getElem?_eq_some_iff.1 hK).1⟩
  have HB : Hid (Below _ _ _) := hBel
  clear hk hτ hd hc hK hBel hz
  go_enter Try.func9, Try.ntmps9
  go_wp2_with fail
  refine HT.out.mono ?_
  rintro e w1 ⟨rfl, hb⟩
  have HB1 : Hid (Below _ _ _) := HB.out.trans (hb.mono HB.out.size)
  clear hb HB
  go_wp2
  go_ret
  exact ⟨rfl, HB1.out⟩

theorem held_le {t ρ burst : Nat} {last now : Int} {κ β : Nat} (h : HeldAt t ρ burst last now κ) (hb : Near β (burst * one) 1) : κ ≤ β := by
  obtain ⟨β', hb', h⟩ := h
  obtain rfl := near_unique hb hb' (by decide)
  rcases h with ⟨_, rfl⟩ | ⟨_, D, M, θ, _, _, _, rfl⟩ <;> exact Nat.min_le_left _ _

theorem held_ge {t ρ burst : Nat} {last now : Int} {κ β : Nat} (ht : t ≤ infR) (h : HeldAt t ρ burst last now κ) (hb : Near β (burst * one) 1) (hbt : β ≤ t) : β ≤ κ := by
  obtain ⟨β', hb', h⟩ := h
  obtain rfl := near_unique hb hb' (by decide)
  rcases h with ⟨_, rfl⟩ | ⟨_, D, M, θ, _, _, h4, rfl⟩
  · omega
  · have : t ≤ θ := h4.ge ht (by omega) (by decide)
    omega

theorem held_before {t ρ burst : Nat} {last now : Int} {κ β : Nat} (h : HeldAt t ρ burst last now κ) (hb : Near β (burst * one) 1) (hle : now ≤ last) (hk : β ≤ κ) : β ≤ t := by
  obtain ⟨β', hb', h⟩ := h
  obtain rfl := near_unique hb hb' (by decide)
  rcases h with ⟨_, rfl⟩ | ⟨h1, _⟩ <;> omega

/-- a wait of 0 ahead of a full bucket there is none -/
theorem wait_pos {χ u : Nat} {r : Int} (h : WaitIs χ u r) (hu : u ≤ 4611686018427387904) (h0 : 0 < χ) : r ≠ 0 := by
  rcases Nat.lt_or_ge χ infR with hf | hf
  · obtain ⟨M, ν, φ, h1, h2, h3, h4⟩ := wait_two h hu hf
    have := ceil_pos h1 h0
    omega
  · rw [wait_never h hu (Nat.le_trans (by decide) hf)]
    decide

set_option maxHeartbeats 4000000 in
theorem case_any (tokens : Nat) (last : Int) (rate : Nat) (burst now : Int) (w : World) (hbb : burst ≤ 9223372036854775807) :
    Calls Try.prog 3 #[.float .f64 tokens, .int .i64 last, .float .f64 rate, .int .i64 burst, .int .i64 now] w fun e w' => e = .returned (.bool true) ∧ Below w.heap.size w w' := by
  have HB0 : Hid (Below w.heap.size w w) := Below.refl _ _
  go_enter Try.func3, Try.ntmps3
  go_wp2_with fail
  refine (bucketDomain_any tokens last rate burst now w).mono ?_
  rintro e w1 ⟨⟨b, rfl, hdom⟩, rfl⟩
  cases b with
  | false =>
    clear hdom
    go_wp2
    go_ret
    exact ⟨rfl, HB0.out⟩
  | true =>
  obtain ⟨τ, ρ, hτ, hτf, hd⟩ := hdom rfl
  clear hdom HB0
  obtain ⟨β, hβ, nβ⟩ : ∃ β, Rg (floatOfInt .f64 burst) β ∧ Near β (burst.toNat * one) 1 := by
    obtain ⟨β, h1, h2⟩ := rg_int burst.toNat
    have := hd.b1
    rw [Int.toNat_of_nonneg (by omega)] at h1
    exact ⟨β, h1, h2⟩
  obtain ⟨κ, hk, hc1⟩ := zzfull_any tokens last rate burst now τ ρ β hτ hd hβ
  obtain ⟨z, κ', hz, hk', hc2⟩ := zztokens_any tokens last rate burst now τ ρ hτ hd
  obtain rfl : κ = κ' := Nat.le_antisymm (held_mono hτ.le hk hk' (Int.le_refl _) (by have := hd.l1; have := hd.n2; omega)) (held_mono hτ.le hk' hk (Int.le_refl _) (by have := hd.l1; have := hd.n2; omega))
  have hκ := held_le hk nβ
  have g1 := rg_gt hz hβ
  rw [decide_eq_false (by omega)] at g1
  have g2 := rg_eq hz hβ
  have g3 := rg_ge hτ hβ
  have g4 := rg_leq hd.rg rg_tame
  have G5 : Hid _ := rg_ge hz hβ
  have HT : Hid (β ≤ τ → β ≤ κ) := fun h => held_ge hτ.le hk nβ h
  have HT2 : Hid (now ≤ last → β ≤ κ → β ≤ τ) := fun h1 h2 => held_before hk nβ h1 h2
  have H1 : Hid _ := hc1
  have H2 : Hid _ := hc2
  have HD : Hid (Dom _ _ _ _ _) := hd
  have hl1 := hd.l1
  have hl2 := hd.l2
  have hn1 := hd.n1
  have hn2 := hd.n2
  have hb1 := hd.b1
  clear hc1 hc2 hτ hτf hd hβ nβ hk hk' hz
  go_wp2_with fail
  refine (H1.out _).mono ?_
  rintro e v1 ⟨rfl, hv1⟩
  have HB1 : Hid (Below _ _ _) := hv1
  clear hv1 H1
  go_wp2_with fail
  refine (H2.out v1).mono ?_
  rintro e v2 ⟨rfl, hv2⟩
  have HB2 : Hid (Below _ _ _) := HB1.out.trans (hv2.mono HB1.out.size)
  clear hv2 HB1 H2
  have hle0 : ∀ u : Nat, u = ahead last now → u ≤ 4611686018427387904 := fun u h => by rw [h]; unfold ahead; omega
  have HU : Hid (ahead last now ≤ 4611686018427387904) := hle0 _ rfl
  clear hle0
  by_cases hf : β ≤ κ
  · -- full
    obtain rfl : κ = β := by omega
    rw [decide_eq_true rfl] at g2
    rw [decide_eq_true (Nat.le_refl κ)]
    have H3 : Hid _ := zzdelay_any tokens last rate burst now z burst 0 (fun b w _ => by
      rcases kinds HD.out z burst hbb with hn | ⟨hn, ⟨y, k1, k2, k3⟩ | ⟨k0, _⟩⟩
      · omega
      · exact delay_held rate burst now z burst hn y k1 k2 b w
      · have := G5.out
        rw [k0, decide_eq_true (Nat.le_refl κ)] at this
        cases this)
    obtain ⟨bt, et⟩ : ∃ bt : Bool, bt = decide (κ ≤ τ) := ⟨_, rfl⟩
    rw [← et] at g3
    have hbt : Hid (now ≤ last → bt = true) := fun h => by rw [et]; exact decide_eq_true (HT2.out h (Nat.le_refl _))
    clear HT HT2 HD G5 hκ et hf
    generalize decide (ρ ≤ tame) = tb at *
    by_cases hnl : now ≤ last
    · obtain rfl := hbt.out hnl
      clear hbt
      go_wp2_with fail
      refine (H3.out v2).mono ?_
      rintro e v3 ⟨rfl, hv3⟩
      have HB3 : Hid (Below _ _ _) := HB2.out.trans (hv3.mono HB2.out.size)
      clear hv3 HB2 H3
      go_wp2
      go_ret
      exact ⟨rfl, HB3.out⟩
    · clear hbt
      cases bt <;>
      · go_wp2_with fail
        refine (H3.out v2).mono ?_
        rintro e v3 ⟨rfl, hv3⟩
        have HB3 : Hid (Below _ _ _) := HB2.out.trans (hv3.mono HB2.out.size)
        clear hv3 HB2 H3
        go_wp2
        go_ret
        exact ⟨rfl, HB3.out⟩
  · -- not full
    rw [decide_eq_false (show ¬ κ = β by omega)] at g2
    rw [decide_eq_false hf]
    rw [decide_eq_false (fun h => hf (HT.out h))] at g3
    obtain ⟨r, hr0, hcr⟩ : ∃ r : Int, (ρ ≤ tame → r ≠ 0) ∧ ∀ (b : Nat) (w : World), BucketAt w b tokens last → Calls Try.prog 14 #[.pointer (some ⟨b, 0, none⟩), .agg #[.float .f64 rate, .int .i64 burst], .int .i64 now, .float .f64 z, .int .i64 burst] w fun e w' => e = .returned (.int .i64 r) ∧ Below w.heap.size w w' := by
      rcases kinds HD.out z burst hbb with hn | ⟨hn, ⟨y, k1, k2, k3⟩ | ⟨k0, k1 | ⟨zs, zd, zx, χ, hch, htame⟩⟩⟩
      · omega
      · have := G5.out
        rw [k3, decide_eq_false hf] at this
        cases this
      · exact ⟨_, fun _ => by decide, fun b w hw => delay_nan tokens last rate burst now z burst ρ HD.out hn k1 b w hw⟩
      · obtain ⟨σ, hσ, hσ0⟩ := hch.pos
        obtain ⟨r, hr, hcr⟩ := delay_wait tokens last rate burst now z burst ρ HD.out hn zs zd zx σ χ hch.sub hσ hσ0 hch.div hch.mul hch.rg
        exact ⟨r, fun ht => wait_pos hr HU.out (htame ht), hcr⟩
    have H3 : Hid _ := zzdelay_any tokens last rate burst now z burst r hcr
    clear hcr HT HT2 HD G5 hκ hf HU
    by_cases ht : ρ ≤ tame
    · rw [decide_eq_true ht] at g4
      have hr1 : (r == 0) = false := by rw [beq_eq_false_iff_ne]; exact hr0 ht
      clear hr0 ht
      by_cases hnl : now ≤ last <;>
      · go_wp2_with fail
        refine (H3.out v2).mono ?_
        rintro e v3 ⟨rfl, hv3⟩
        have HB3 : Hid (Below _ _ _) := HB2.out.trans (hv3.mono HB2.out.size)
        clear hv3 HB2 H3
        go_wp2
        go_ret
        exact ⟨rfl, HB3.out⟩
    · rw [decide_eq_false ht] at g4
      clear hr0 ht
      by_cases hnl : now ≤ last <;>
      · go_wp2_with fail
        refine (H3.out v2).mono ?_
        rintro e v3 ⟨rfl, hv3⟩
        have HB3 : Hid (Below _ _ _) := HB2.out.trans (hv3.mono HB2.out.size)
        clear hv3 HB2 H3
        go_wp2
        go_ret
        exact ⟨rfl, HB3.out⟩

end Go.Proofs.Qxb6604567a
