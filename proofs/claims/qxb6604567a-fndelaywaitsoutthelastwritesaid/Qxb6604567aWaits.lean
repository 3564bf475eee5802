/-
  'FnDelayWaitsOutTheLastWrite': the walk.
-/
import Derived.Test.Qxb6604567aKinds
namespace Go.Proofs.Qxb6604567a
open Go.RowKit Ieee

theorem ahead_le {last : Int} {rate : Nat} {burst now : Int} {ρ : Nat} (hd : Dom last rate burst now ρ) : ahead last now ≤ 4611686018427387904 := by
  have := hd.l2
  have := hd.n1
  unfold ahead
  omega

set_option maxHeartbeats 2000000 in
theorem waits_any (tokens : Nat) (last : Int) (rate : Nat) (burst now : Int) (held : Nat) (n : Int) (w : World) (hb : burst ≤ 9223372036854775807) :
    Calls Try.prog 6 #[.float .f64 tokens, .int .i64 last, .float .f64 rate, .int .i64 burst, .int .i64 now, .float .f64 held, .int .i64 n] w fun e w' => e = .returned (.bool true) ∧ Below w.heap.size w w' := by
  have HB0 : Hid (Below w.heap.size w w) := Below.refl _ _
  go_enter Try.func6, Try.ntmps6
  go_wp2_with fail
  refine (delayDomain_any last rate burst now w).mono ?_
  rintro e w1 ⟨⟨b, rfl, hdom⟩, rfl⟩
  cases b with
  | false =>
    clear hdom
    go_wp2
    go_ret
    exact ⟨rfl, HB0.out⟩
  | true =>
  obtain ⟨ρ, hd⟩ := hdom rfl
  clear hdom
  have hdl : Dom last rate burst last ρ := ⟨hd.l1, hd.l2, hd.l1, hd.l2, hd.rg, hd.pos, hd.fin, hd.b1⟩
  have hl1 := hd.l1
  have hl2 := hd.l2
  have hn1 := hd.n1
  have hn2 := hd.n2
  rcases kinds hd held n hb with hn | ⟨hn, ⟨z, k1, k2, k3⟩ | ⟨k0, k1 | ⟨zs, zd, zx, χ, hch, _⟩⟩⟩
  · -- refused
    have H1 : Hid _ := zzdelay_any tokens last rate burst now held n _ (fun b w _ => delay_refused rate burst now held n hn b w)
    have H2 : Hid _ := zzdelay_any tokens last rate burst last held n _ (fun b w _ => delay_refused rate burst last held n hn b w)
    clear hd hdl
    go_wp2_with fail
    refine (H1.out _).mono ?_
    rintro e v1 ⟨rfl, hv1⟩
    have HB1 : Hid (Below _ _ _) := hv1
    clear hv1 H1
    go_wp2_with fail
    refine (H2.out v1).mono ?_
    rintro e v2 ⟨rfl, hv2⟩
    have HB2 : Hid (Below _ _ _) := HB1.out.trans (hv2.mono HB1.out.size)
    clear hv2 HB1 H2 HB0
    by_cases h1 : n < 1
    · clear hn
      go_wp2
      go_ret
      exact ⟨rfl, HB2.out⟩
    · have h2 : burst < n := by omega
      clear hn
      go_wp2
      go_ret
      exact ⟨rfl, HB2.out⟩
  · -- held
    have H1 : Hid _ := zzdelay_any tokens last rate burst now held n _ (fun b w _ => delay_held rate burst now held n hn z k1 k2 b w)
    have H2 : Hid _ := zzdelay_any tokens last rate burst last held n _ (fun b w _ => delay_held rate burst last held n hn z k1 k2 b w)
    clear hd hdl k1 k2
    obtain ⟨hn1, hn2⟩ := hn
    go_wp2_with fail
    refine (H1.out _).mono ?_
    rintro e v1 ⟨rfl, hv1⟩
    have HB1 : Hid (Below _ _ _) := hv1
    clear hv1 H1
    go_wp2_with fail
    refine (H2.out v1).mono ?_
    rintro e v2 ⟨rfl, hv2⟩
    have HB2 : Hid (Below _ _ _) := HB1.out.trans (hv2.mono HB1.out.size)
    clear hv2 HB1 H2 HB0
    go_wp2
    go_ret
    exact ⟨rfl, HB2.out⟩
  · -- NaN
    have H1 : Hid _ := zzdelay_any tokens last rate burst now held n _ (fun b w hw => delay_nan tokens last rate burst now held n ρ hd hn k1 b w hw)
    have H2 : Hid _ := zzdelay_any tokens last rate burst last held n _ (fun b w hw => delay_nan tokens last rate burst last held n ρ hdl hn k1 b w hw)
    clear hd hdl k1
    obtain ⟨hn1', hn2'⟩ := hn
    go_wp2_with fail
    refine (H1.out _).mono ?_
    rintro e v1 ⟨rfl, hv1⟩
    have HB1 : Hid (Below _ _ _) := hv1
    clear hv1 H1
    go_wp2_with fail
    refine (H2.out v1).mono ?_
    rintro e v2 ⟨rfl, hv2⟩
    have HB2 : Hid (Below _ _ _) := HB1.out.trans (hv2.mono HB1.out.size)
    clear hv2 HB1 H2 HB0
    by_cases hnl : last ≤ now
    · go_wp2
      go_ret
      exact ⟨rfl, HB2.out⟩
    · go_wp2
      go_ret
      exact ⟨rfl, HB2.out⟩
  · -- a wait
    obtain ⟨σ, hσ, hσ0⟩ := hch.pos
    obtain ⟨r, hr, hcr⟩ := delay_wait tokens last rate burst now held n ρ hd hn zs zd zx σ χ hch.sub hσ hσ0 hch.div hch.mul hch.rg
    obtain ⟨s, hs, hcs⟩ := delay_wait tokens last rate burst last held n ρ hdl hn zs zd zx σ χ hch.sub hσ hσ0 hch.div hch.mul hch.rg
    have H1 : Hid _ := zzdelay_any tokens last rate burst now held n r hcr
    have H2 : Hid _ := zzdelay_any tokens last rate burst last held n s hcs
    have hal : ahead last last = 0 := by unfold ahead; omega
    rw [hal] at hs
    have F1 : Hid (last ≤ now → r = s) := fun hh => by
      have : ahead last now = 0 := by unfold ahead; omega
      rw [this] at hr
      exact wait_unique hr hs (by omega)
    have F2 : Hid (now < last → (s = 9223372036854775807 → r = 9223372036854775807) ∧ (s ≤ 9223372036854775807 - (last - now) - 1024 → r = (last - now) + s) ∧ (r = 9223372036854775807 ∨ (r = (last - now) + s ∧ (last - now) + s ≤ 9223372036854775807)) ∧ 0 ≤ s ∧ s ≤ 9223372036854775807) := fun hh => by
      have h1 : ((ahead last now : Nat) : Int) = last - now := by unfold ahead; omega
      have h2 := wait_shift hr hs (ahead_le hd) (by omega)
      rw [h1] at h2
      exact h2
    clear hd hdl hch hcr hcs hr hs hal hσ
    obtain ⟨hn1', hn2'⟩ := hn
    go_wp2_with fail
    refine (H1.out _).mono ?_
    rintro e v1 ⟨rfl, hv1⟩
    have HB1 : Hid (Below _ _ _) := hv1
    clear hv1 H1
    go_wp2_with fail
    refine (H2.out v1).mono ?_
    rintro e v2 ⟨rfl, hv2⟩
    have HB2 : Hid (Below _ _ _) := HB1.out.trans (hv2.mono HB1.out.size)
    clear hv2 HB1 H2 HB0
    by_cases hnl : last ≤ now
    · obtain rfl := F1.out hnl
      clear F1 F2
      go_wp2
      go_ret
      exact ⟨rfl, HB2.out⟩
    · obtain ⟨f1, f2, f3, f4, f5⟩ := F2.out (by omega)
      clear F1 F2
      by_cases c1 : s = 9223372036854775807
      · obtain rfl := f1 c1
        subst c1
        clear f1 f2 f3
        go_wp2
        go_ret
        exact ⟨rfl, HB2.out⟩
      · by_cases c2 : s ≤ 9223372036854775807 - (last - now) - 1024
        · have e := f2 c2
          clear f1 f2 f3
          subst e
          go_wp2
          go_ret
          exact ⟨rfl, HB2.out⟩
        · clear f1 f2
          rcases f3 with e | ⟨e, e2⟩
          · subst e
            go_wp2
            go_ret
            exact ⟨rfl, HB2.out⟩
          · subst e
            by_cases c3 : last - now + s = 9223372036854775807
            · go_wp2
              go_ret
              exact ⟨rfl, HB2.out⟩
            · go_wp2
              go_ret
              exact ⟨rfl, HB2.out⟩

end Go.Proofs.Qxb6604567a
