/-
  'Seconds', 'tokensAt', 'full', 'ZZfull'.
-/
import Derived.Test.Qxb6604567aDom
namespace Go.Proofs.Qxb6604567a
open Go.RowKit Ieee

/-- it returned a float of rung r with p r -/
def RetRg (p : Nat → Prop) (e : Ending) : Prop := ∃ z r, e = .returned (.float .f64 z) ∧ Rg z r ∧ p r
theorem RetRg.mk {p : Nat → Prop} {z r : Nat} (h : Rg z r) (g : p r) : RetRg p (.returned (.float .f64 z)) := ⟨z, r, rfl, h, g⟩

theorem rg_c9 : Rg 4741671816366391296 c9 := rg_self _ (by decide)

theorem drewN_below (w : World) (d : Nat) : Below w.heap.size w (w.drewN d) := ⟨rfl, rfl, rfl, Nat.le_refl _, fun _ _ => rfl⟩

theorem rg_min {x y a b : Nat} (h : Rg x a) (g : Rg y b) : ∃ z, Rg z (min a b) ∧ ∀ (ts : Array TypeId) (t : TypeId) (w : World), (Builtin.min_ ts t #[.float .f64 x, .float .f64 y]).run Try.prog w = .ok (.float .f64 z) w := by
  have ho : FloatKind.f64.format.order x y = some (compare a b) := h.order g
  have hm : ∀ (ts : Array TypeId) (t : TypeId), Builtin.min_ ts t #[.float .f64 x, .float .f64 y] = Builtin.min2 (.float .f64 x) (.float .f64 y) := fun ts t => by
    unfold Builtin.min_
    simp
  rcases Nat.lt_trichotomy a b with hl | hl | hl
  · refine ⟨x, by rw [Nat.min_eq_left (by omega)]; exact h, fun ts t w => ?_⟩
    rw [hm]
    unfold Builtin.min2
    simp only [ho, Nat.compare_eq_lt.2 hl]
    rfl
  · subst hl
    rw [Nat.min_self]
    have : ∀ (ts : Array TypeId) (t : TypeId) (w : World), (Builtin.min_ ts t #[.float .f64 x, .float .f64 y]).run Try.prog w = .ok (.float .f64 (if (FloatKind.f64.decode x).neg then x else y)) w := fun ts t w => by
      rw [hm]
      unfold Builtin.min2
      simp only [ho, Nat.compare_eq_eq.2 rfl]
      rfl
    refine ⟨_, ?_, this⟩
    split
    · exact h
    · exact g
  · refine ⟨y, by rw [Nat.min_eq_right (by omega)]; exact g, fun ts t w => ?_⟩
    rw [hm]
    unfold Builtin.min2
    simp only [ho, Nat.compare_eq_gt.2 hl]
    rfl

theorem arith {op : BinOp} {x y z : Nat} (h : floatBits op .f64 x y = some z) : ∀ t w, (binOp op t (.float .f64 x) (.float .f64 y)).run Try.prog w = .ok (.float .f64 z) w := fun t w => run_float_arith w op t .f64 x y z h

set_option maxHeartbeats 1000000 in
theorem seconds_any (n : Nat) (hn : n ≤ 4611686018427387904) :
    ∃ z D, Rg z D ∧ SecAt n D ∧ ∀ w, Calls Try.prog 15 #[.int .i64 n] w fun e w' => e = .returned (.float .f64 z) ∧ w' = w := by
  have d1 : ((n / 1000000000 : Nat) : Int) = (n : Int) / 1000000000 := by omega
  have d2 : ((n % 1000000000 : Nat) : Int) = (n : Int) % 1000000000 := by omega
  obtain ⟨S, hS, nS⟩ := rg_int (n / 1000000000)
  obtain ⟨N, hN, nN⟩ := rg_int (n % 1000000000)
  rw [d1] at hS
  rw [d2] at hN
  obtain ⟨z1, Q, e1, hQ, nQ⟩ := rg_div hN rg_c9 (Nat.lt_of_le_of_lt (near_small nN (by omega)).2.1 (by decide)) (by decide) (by decide)
  obtain ⟨z2, D, e2, hD, nD⟩ := rg_add hS hQ
  have a1 := arith (op := .quo) e1
  have a2 := arith (op := .add) e2
  refine ⟨z2, D, hD, ⟨S, N, Q, nS, nN, nQ, nD⟩, fun w => ?_⟩
  clear hS nS hN nN e1 hQ nQ e2 hD nD d1 d2
  go_enter Try.func15, Try.ntmps15
  go_wp2
  go_ret
  exact ⟨rfl, rfl⟩

/-- the bucket in memory -/
structure BucketAt (w : World) (b tokens : Nat) (last : Int) : Prop where
  tok : w.cell? ⟨b, 0, none⟩ = some (.float .f64 tokens)
  las : w.cell? ⟨b, 1, none⟩ = some (.int .i64 last)
  lt : b < w.heap.size

theorem BucketAt.below {w w' : World} {b tokens : Nat} {last : Int} (h : BucketAt w b tokens last) (hb : Below w.heap.size w w') : BucketAt w' b tokens last :=
  ⟨(hb.cell (p := ⟨b, 0, none⟩) h.lt).trans h.tok, (hb.cell (p := ⟨b, 1, none⟩) h.lt).trans h.las, Nat.lt_of_lt_of_le h.lt hb.size⟩

set_option maxHeartbeats 1000000 in
theorem tokensAt_any (tokens : Nat) (last : Int) (rate : Nat) (burst now : Int) (τ ρ : Nat) (hτ : Rg tokens τ) (hd : Dom last rate burst now ρ) :
    ∃ z κ, Rg z κ ∧ HeldAt τ ρ burst.toNat last now κ ∧ ∀ (b : Nat) (w : World), BucketAt w b tokens last →
      Calls Try.prog 13 #[.pointer (some ⟨b, 0, none⟩), .agg #[.float .f64 rate, .int .i64 burst], .int .i64 now] w fun e w' => e = .returned (.float .f64 z) ∧ Below w.heap.size w w' := by
  have hl1 := hd.l1
  have hl2 := hd.l2
  have hn1 := hd.n1
  have hn2 := hd.n2
  obtain ⟨bn, rfl⟩ : ∃ bn : Nat, burst = bn := ⟨burst.toNat, by have := hd.b1; omega⟩
  obtain ⟨β, hβ, nβ⟩ := rg_int bn
  rw [Int.toNat_natCast]
  by_cases hnl : last < now
  · obtain ⟨n, hn⟩ : ∃ n : Nat, now - last = n := ⟨(now - last).toNat, by omega⟩
    obtain ⟨zs, D, hD, sD, hsec⟩ := seconds_any n (by omega)
    obtain ⟨zm, M, em, hM, nM⟩ := rg_mul hD hd.rg (Nat.lt_of_le_of_lt (sec_fin sD (by omega)) (by decide)) hd.fin
    obtain ⟨za, θ, ea, hθ, nθ⟩ := rg_add hτ hM
    obtain ⟨z, hz, hmin⟩ := rg_min hβ hθ
    have a1 := arith (op := .mul) em
    have a2 := arith (op := .add) ea
    refine ⟨z, _, hz, ⟨β, nβ, .inr ⟨hnl, D, M, θ, by rw [hn]; exact sD, nM, nθ, rfl⟩⟩, fun b w hw => ?_⟩
    rw [← hn] at hsec
    clear hD sD hM nM hθ nθ hz nβ hβ hn em ea hτ hd
    have hBel : Below w.heap.size w (w.alloc (.cells #[.float .f64 rate, .int .i64 bn] 35)) := (Below.refl _ _).alloc (Nat.le_refl _) _
    have k0 := (hw.below hBel).tok
    have k1 := (hw.below hBel).las
    have HS : Hid _ := hsec
    have HB : Hid (Below _ _ _) := hBel
    clear hBel hw hsec
    go_enter Try.func13, Try.ntmps13
    go_wp2
    go_quiet ((go_at_call 15; refine Calls.quiet_of_same (HS.out _)))
    go_wp2
    go_ret
    exact ⟨rfl, HB.out.trans ((drewN_below _ _).mono HB.out.size)⟩
  · obtain ⟨z, hz, hmin⟩ := rg_min hβ hτ
    refine ⟨z, _, hz, ⟨β, nβ, .inl ⟨by omega, rfl⟩⟩, fun b w hw => ?_⟩
    clear hz nβ hβ hτ hd
    have hBel : Below w.heap.size w (w.alloc (.cells #[.float .f64 rate, .int .i64 bn] 35)) := (Below.refl _ _).alloc (Nat.le_refl _) _
    have k0 := (hw.below hBel).tok
    have k1 := (hw.below hBel).las
    have HB : Hid (Below _ _ _) := hBel
    clear hBel hw
    go_enter Try.func13, Try.ntmps13
    go_wp2
    go_ret
    exact ⟨rfl, HB.out⟩

end Go.Proofs.Qxb6604567a
