/-
  'FnBucketFillsAndStaysFull': the walk.
-/
import Derived.Test.Qxb6604567aFull
namespace Go.Proofs.Qxb6604567a
open Go.RowKit Ieee

theorem rg_c29 : Rg 4746175415993761792 c29 := rg_self _ (by decide)

/-- the test on the time passed -/
theorem fill_facts {τ ρ β κ : Nat} {last now : Int} {rate : Nat} {burst : Int} (hr : Rg rate ρ) (hρ : ρ < infR) (hβ : Rg (floatOfInt .f64 burst) β) (hb1 : 1 ≤ burst) (hb2 : burst ≤ 9223372036854775807)
    (nβ : Near β (burst.toNat * one) 1) (hk : HeldAt τ ρ burst.toNat last now κ) (hln : last < now) (hle : now - last ≤ 4611686018427387904) :
    ∃ (zP zB : Nat) (bb : Bool), (∀ t w, (binOp .mul t (.float .f64 (floatOfInt .f64 (now - last))) (.float .f64 rate)).run Try.prog w = .ok (.float .f64 zP) w) ∧
      (∀ t w, (binOp .mul t (.float .f64 4746175415993761792) (.float .f64 (floatOfInt .f64 burst))).run Try.prog w = .ok (.float .f64 zB) w) ∧
      (FloatKind.f64.format.order zP zB == some .gt || FloatKind.f64.format.order zP zB == some .eq) = bb ∧ (bb = true → β ≤ κ) := by
  obtain ⟨n, hn⟩ : ∃ n : Nat, now - last = n := ⟨(now - last).toNat, by omega⟩
  obtain ⟨E, hE, nE⟩ := rg_int n
  have hbf := near_fin nβ (by omega)
  have hEf := near_fin nE (by omega)
  obtain ⟨zP, P, eP, hP, nP⟩ := rg_mul hE hr (by unfold infR; omega) hρ
  obtain ⟨zB, B, eB, hB, nB⟩ := rg_mul rg_c29 hβ (by decide) (by unfold infR; omega)
  rw [hn]
  refine ⟨zP, zB, _, arith (op := .mul) eP, arith (op := .mul) eB, rg_ge hP hB, fun h => ?_⟩
  have hBP : B ≤ P := of_decide_eq_true h
  have := held_fills hk nβ (by omega) (by omega) hln hle (E := E) (by rw [hn]; exact nE) nP nB hBP
  omega

set_option maxHeartbeats 4000000 in
theorem fills_any (tokens : Nat) (last : Int) (rate : Nat) (burst now later : Int) (w : World) (hb2 : burst ≤ 9223372036854775807) :
    Calls Try.prog 4 #[.float .f64 tokens, .int .i64 last, .float .f64 rate, .int .i64 burst, .int .i64 now, .int .i64 later] w fun e w' => e = .returned (.bool true) ∧ Below w.heap.size w w' := by
  have HB0 : Hid (Below w.heap.size w w) := Below.refl _ _
  go_enter Try.func4, Try.ntmps4
  go_wp2_with fail
  refine (bucketDomain_any tokens last rate burst now w).mono ?_
  rintro e w1 ⟨⟨b, rfl, hdom⟩, rfl⟩
  cases b with
  | false =>
    clear hdom
    go_wp2
    go_ret
    exact ⟨rfl, HB0.out⟩
  | true =>
  obtain ⟨τ, ρ, hτ, hτf, hd⟩ := hdom rfl
  clear hdom
  by_cases hl1 : later < now
  · clear hτ hd
    go_wp2
    go_ret
    exact ⟨rfl, HB0.out⟩
  by_cases hl2 : 2305843009213693952 < later
  · clear hτ hd
    go_wp2
    go_ret
    exact ⟨rfl, HB0.out⟩
  have hd2 : Dom last rate burst later ρ := ⟨hd.l1, hd.l2, by have := hd.n1; omega, by omega, hd.rg, hd.pos, hd.fin, hd.b1⟩
  obtain ⟨β, hβ, nβ⟩ : ∃ β, Rg (floatOfInt .f64 burst) β ∧ Near β (burst.toNat * one) 1 := by
    obtain ⟨β, h1, h2⟩ := rg_int burst.toNat
    have := hd.b1
    rw [Int.toNat_of_nonneg (by omega)] at h1
    exact ⟨β, h1, h2⟩
  obtain ⟨κ1, hk1, hc1⟩ := zzfull_any tokens last rate burst now τ ρ β hτ hd hβ
  obtain ⟨κ2, hk2, hc2⟩ := zzfull_any tokens last rate burst later τ ρ β hτ hd2 hβ
  have hmono : β ≤ κ1 → β ≤ κ2 := fun h => Nat.le_trans h (held_mono hτ.le hk1 hk2 (by omega) (by have := hd.l1; omega))
  obtain ⟨b1, e1⟩ : ∃ b1 : Bool, b1 = decide (β ≤ κ1) := ⟨_, rfl⟩
  obtain ⟨b2, e2⟩ : ∃ b2 : Bool, b2 = decide (β ≤ κ2) := ⟨_, rfl⟩
  rw [← e1] at hc1
  rw [← e2] at hc2
  have m12 : b1 = true → b2 = true := fun h => by rw [e2]; rw [e1] at h; exact decide_eq_true (hmono (of_decide_eq_true h))
  have H1 : Hid _ := hc1
  have H2 : Hid _ := hc2
  clear hc1 hc2
  have HN : Hid (now - last ≤ 4611686018427387904 ∧ later - last ≤ 4611686018427387904) := by have := hd.l1; have := hd.n2; exact ⟨by omega, by omega⟩
  have F1 : Hid (last < now → ∃ (zP zB : Nat) (bb : Bool), (∀ t w, (binOp .mul t (.float .f64 (floatOfInt .f64 (now - last))) (.float .f64 rate)).run Try.prog w = .ok (.float .f64 zP) w) ∧
      (∀ t w, (binOp .mul t (.float .f64 4746175415993761792) (.float .f64 (floatOfInt .f64 burst))).run Try.prog w = .ok (.float .f64 zB) w) ∧
      (FloatKind.f64.format.order zP zB == some .gt || FloatKind.f64.format.order zP zB == some .eq) = bb ∧ (bb = true → b1 = true)) := fun hln => by
    obtain ⟨zP, zB, bb, a1, a2, a3, a4⟩ := fill_facts hd.rg hd.fin hβ hd.b1 hb2 nβ hk1 hln HN.out.1
    exact ⟨zP, zB, bb, a1, a2, a3, fun h => by rw [e1]; exact decide_eq_true (a4 h)⟩
  have F2 : Hid (last < later → ∃ (zP zB : Nat) (bb : Bool), (∀ t w, (binOp .mul t (.float .f64 (floatOfInt .f64 (later - last))) (.float .f64 rate)).run Try.prog w = .ok (.float .f64 zP) w) ∧
      (∀ t w, (binOp .mul t (.float .f64 4746175415993761792) (.float .f64 (floatOfInt .f64 burst))).run Try.prog w = .ok (.float .f64 zB) w) ∧
      (FloatKind.f64.format.order zP zB == some .gt || FloatKind.f64.format.order zP zB == some .eq) = bb ∧ (bb = true → b2 = true)) := fun hln => by
    obtain ⟨zP, zB, bb, a1, a2, a3, a4⟩ := fill_facts hd.rg hd.fin hβ hd.b1 hb2 nβ hk2 hln HN.out.2
    exact ⟨zP, zB, bb, a1, a2, a3, fun h => by rw [e2]; exact decide_eq_true (a4 h)⟩
  have F3 : Hid (now ≤ last → (FloatKind.f64.format.order tokens (floatOfInt .f64 burst) == some .gt || FloatKind.f64.format.order tokens (floatOfInt .f64 burst) == some .eq) = b1) := fun hle => by
    rw [rg_ge hτ hβ, e1]
    obtain ⟨β', hb', hh⟩ := hk1
    obtain rfl := near_unique nβ hb' (by decide)
    rcases hh with ⟨_, rfl⟩ | ⟨h, _⟩
    · congr 1
      apply propext
      omega
    · omega
  have L : Hid (-2305843009213693952 ≤ last ∧ last ≤ 2305843009213693952 ∧ -2305843009213693952 ≤ now ∧ now ≤ 2305843009213693952) := ⟨hd.l1, hd.l2, hd.n1, hd.n2⟩
  clear hmono e1 e2 hk1 hk2 hβ nβ hd hd2 hτ hτf HN
  go_wp2_with fail
  refine (H1.out _).mono ?_
  rintro e v1 ⟨rfl, hv1⟩
  have HB1 : Hid (Below _ _ _) := hv1
  clear hv1 H1
  go_wp2_with fail
  refine (H2.out v1).mono ?_
  rintro e v2 ⟨rfl, hv2⟩
  have HB2 : Hid (Below _ _ _) := HB1.out.trans (hv2.mono HB1.out.size)
  clear hv2 HB1 H2 HB0
  obtain ⟨l1, l2, l3, l4⟩ := L.out
  clear L
  by_cases hA : last < later
  · obtain ⟨zP2, zB2, bb2, p1, p2, p3, p4⟩ := F2.out hA
    by_cases hB : last < now
    · obtain ⟨zP1, zB1, bb1, q1, q2, q3, q4⟩ := F1.out hB
      clear F1 F2 F3
      obtain rfl : zB1 = zB2 := by
        have hh := (q2 22 v2).symm.trans (p2 22 v2)
        injection hh with hh _
        injection hh
      clear q2
      cases b1 <;> cases b2 <;> cases bb1 <;> cases bb2 <;> first | (exfalso; simp at m12; done) | (exfalso; simp at p4; done) | (exfalso; simp at q4; done) | (clear m12 p4 q4; go_wp2; go_ret; exact ⟨rfl, HB2.out⟩)
    · have t1 := F3.out (by omega)
      clear F1 F2 F3
      cases b1 <;> cases b2 <;> cases bb2 <;> first | (exfalso; simp at m12; done) | (exfalso; simp at p4; done) | (clear m12 p4; go_wp2; go_ret; exact ⟨rfl, HB2.out⟩)
  · have hB : ¬ last < now := by omega
    have t1 := F3.out (by omega)
    clear F1 F2 F3
    cases b1 <;> cases b2 <;> first | (exfalso; simp at m12; done) | (clear m12; go_wp2; go_ret; exact ⟨rfl, HB2.out⟩)

end Go.Proofs.Qxb6604567a
