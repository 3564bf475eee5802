/-
  'admits', 'Ceil', 'delay', 'ZZdelay': the walks.
-/
import Derived.Test.Qxb6604567aDelay
namespace Go.Proofs.Qxb6604567a
open Go.RowKit Ieee

theorem rg_lt {x y a b : Nat} (h : Rg x a) (g : Rg y b) : (FloatKind.f64.format.order x y == some .lt) = decide (a < b) := by
  have ho : FloatKind.f64.format.order x y = some (compare a b) := h.order g
  rw [ho]
  rcases Nat.lt_trichotomy a b with hl | hl | hl
  · rw [Nat.compare_eq_lt.2 hl, decide_eq_true (by omega)]; rfl
  · rw [Nat.compare_eq_eq.2 hl, decide_eq_false (by omega)]; rfl
  · rw [Nat.compare_eq_gt.2 hl, decide_eq_false (by omega)]; rfl

set_option maxHeartbeats 1000000 in
theorem admits_any (rate : Nat) (burst n : Int) (w : World) :
    Calls Try.prog 16 #[.agg #[.float .f64 rate, .int .i64 burst], .int .i64 n] w fun e w' => e = .returned (.bool (decide (1 ≤ n ∧ n ≤ burst))) ∧ Below w.heap.size w w' := by
  have HB : Hid (Below w.heap.size w (w.alloc (.cells #[.float .f64 rate, .int .i64 burst] 35))) := (Below.refl _ _).alloc (Nat.le_refl _) _
  by_cases h1 : 1 ≤ n
  · by_cases h2 : n ≤ burst
    · rw [decide_eq_true ⟨h1, h2⟩]
      go_enter Try.func16, Try.ntmps16
      go_wp2
      go_ret
      exact ⟨rfl, HB.out⟩
    · rw [decide_eq_false (fun h => h2 h.2)]
      go_enter Try.func16, Try.ntmps16
      go_wp2
      go_ret
      exact ⟨rfl, HB.out⟩
  · rw [decide_eq_false (fun h => h1 h.1)]
    go_enter Try.func16, Try.ntmps16
    go_wp2
    go_ret
    exact ⟨rfl, HB.out⟩

def zc (x : Nat) : Nat := double.write ((double.read x).integral .up)

set_option maxHeartbeats 1000000 in
theorem ceil_call {x χ : Nat} (h : Rg x χ) (w : World) : Calls Try.prog 17 #[.float .f64 x] w fun e w' => e = .returned (.float .f64 (zc x)) ∧ w' = w := by
  have hc : ∀ w, (callFunc 19 #[.float .f64 x]).run Try.prog w = .ok (.value (.float .f64 (zc x))) w := fun w => ceil_num h w
  clear h
  go_enter Try.func17, Try.ntmps17
  go_wp2
  go_ret
  exact ⟨rfl, rfl⟩

def RetNan (e : Ending) : Prop := ∃ z, e = .returned (.float .f64 z) ∧ infR < z % 9223372036854775808

set_option maxHeartbeats 1000000 in
theorem ceil_call_nan {x : Nat} (h : infR < x % 9223372036854775808) (w : World) : Calls Try.prog 17 #[.float .f64 x] w fun e w' => RetNan e ∧ Below w.heap.size w w' := by
  obtain ⟨z, n, hz, hc⟩ := ceil_nan h w
  have HZ : Hid (infR < _) := hz
  clear h hz
  go_enter Try.func17, Try.ntmps17
  go_wp2
  go_ret
  exact ⟨⟨z, rfl, HZ.out⟩, drewN_below _ _⟩

theorem zc_rg {x χ : Nat} (h : Rg x χ) : ∃ ν, Rg (zc x) ν ∧ ((χ = infR ∧ ν = infR) ∨ (χ < infR ∧ ∃ M, IsCeil χ M ∧ vr ν = M * one)) := by
  rcases Nat.eq_or_lt_of_le h.le with e | hlt
  · subst e
    refine ⟨infR, ?_, .inl ⟨rfl, rfl⟩⟩
    unfold zc
    rw [rg_inf_read h]
    exact rg_word false infR (Nat.le_refl _) (fun h => by cases h)
  · obtain ⟨M, ν, h1, h2, h3, h4⟩ := rg_ceil h hlt
    exact ⟨ν, h4, .inr ⟨hlt, M, h1, h2⟩⟩

/-- the wait r for a quotient of rung χ, u nanoseconds ahead of the last write -/
def WaitIs (χ u : Nat) (r : Int) : Prop := ∃ φ, Near φ ((9223372036854775807 - u) * one) 1 ∧
  ((∃ M ν, χ < infR ∧ IsCeil χ M ∧ vr ν = M * one ∧ ν < φ ∧ r = (u : Int) + M) ∨ ((χ = infR ∨ ∃ M ν, χ < infR ∧ IsCeil χ M ∧ vr ν = M * one ∧ φ ≤ ν) ∧ r = 9223372036854775807))

/-- what is below the nearest float64 is no more than the number itself -/
theorem fits {φ ν M K : Nat} (h : Near φ (K * one) 1) (hν : vr ν = M * one) (hlt : ν < φ) : M ≤ K := by
  rcases Nat.lt_or_ge K M with h1 | h1
  · exfalso
    have : φ ≤ ν := h.le_of (by rw [hν, Nat.mul_one]; exact Nat.mul_le_mul_right _ (Nat.le_of_lt h1)) (by decide)
    omega
  · exact h1

theorem drew_below' (w : World) : Below w.heap.size w w.drew := ⟨rfl, rfl, rfl, Nat.le_refl _, fun _ _ => rfl⟩

section
variable (tokens : Nat) (last : Int) (rate : Nat) (burst now : Int) (held : Nat) (n : Int) (ρ : Nat)

set_option maxHeartbeats 1000000 in
theorem delay_refused (hn : ¬ (1 ≤ n ∧ n ≤ burst)) (b : Nat) (w : World) :
    Calls Try.prog 14 #[.pointer (some ⟨b, 0, none⟩), .agg #[.float .f64 rate, .int .i64 burst], .int .i64 now, .float .f64 held, .int .i64 n] w fun e w' => e = .returned (.int .i64 9223372036854775807) ∧ Below w.heap.size w w' := by
  have hBel : Below w.heap.size w (w.alloc (.cells #[.float .f64 rate, .int .i64 burst] 35)) := (Below.refl _ _).alloc (Nat.le_refl _) _
  have B0 : (w.alloc (.cells #[.float .f64 rate, .int .i64 burst] 35)).heap[w.heap.size]? = some (.cells #[.float .f64 rate, .int .i64 burst] 35 (0, 0)) := heap_alloc_new w _
  have HB : Hid (Below _ _ _) := hBel
  have HK : Hid (_ = _) := B0
  clear hBel B0
  have had := admits_any rate burst n
  rw [decide_eq_false hn] at had
  have HA : Hid _ := had
  clear had hn
  go_enter Try.func14, Try.ntmps14
  go_wp2_with fail
  refine (HA.out _).mono ?_
  rintro e w1 ⟨rfl, hb1⟩
  have HB1 : Hid (Below _ _ _) := HB.out.trans (hb1.mono HB.out.size)
  clear hb1 HB HK HA
  go_wp2
  go_ret
  exact ⟨rfl, HB1.out⟩

set_option maxHeartbeats 1000000 in
theorem delay_held (hn : 1 ≤ n ∧ n ≤ burst) (z : Nat) (hz : double.sub (floatOfInt .f64 n) held = some z) (hlow : double.order z 0 = some .lt ∨ double.order z 0 = some .eq) (b : Nat) (w : World) :
    Calls Try.prog 14 #[.pointer (some ⟨b, 0, none⟩), .agg #[.float .f64 rate, .int .i64 burst], .int .i64 now, .float .f64 held, .int .i64 n] w fun e w' => e = .returned (.int .i64 0) ∧ Below w.heap.size w w' := by
  have hBel : Below w.heap.size w (w.alloc (.cells #[.float .f64 rate, .int .i64 burst] 35)) := (Below.refl _ _).alloc (Nat.le_refl _) _
  have HB : Hid (Below _ _ _) := hBel
  clear hBel
  have had := admits_any rate burst n
  rw [decide_eq_true hn] at had
  have HA : Hid _ := had
  have a1 := arith (op := .sub) hz
  have a2 : (FloatKind.f64.format.order z 0 == some .lt || FloatKind.f64.format.order z 0 == some .eq) = true := by
    have e : FloatKind.f64.format.order z 0 = double.order z 0 := rfl
    rw [e]
    rcases hlow with h | h <;> rw [h] <;> rfl
  clear had hn hz hlow
  go_enter Try.func14, Try.ntmps14
  go_wp2_with fail
  refine (HA.out _).mono ?_
  rintro e w1 ⟨rfl, hb1⟩
  have HB1 : Hid (Below _ _ _) := HB.out.trans (hb1.mono HB.out.size)
  clear hb1 HB HA
  go_wp2
  go_ret
  exact ⟨rfl, HB1.out⟩

/-- the time until the last write -/
def ahead (last now : Int) : Nat := (last - now).toNat

theorem max_ahead (last now : Int) (ts : Array TypeId) (t : TypeId) (w : World) : (Builtin.max_ ts t #[.int .i64 (last - now), .int .i64 0]).run Try.prog w = .ok (.int .i64 (ahead last now)) w := by
  have e : Builtin.max_ ts t #[.int .i64 (last - now), .int .i64 0] = pure (.int .i64 (if (0 : Int) > last - now then 0 else last - now)) := by
    unfold Builtin.max_
    simp [Builtin.max2]
  rw [e]
  have : (if (0 : Int) > last - now then 0 else last - now) = (ahead last now : Int) := by
    unfold ahead
    split <;> omega
  rw [this]
  rfl

set_option maxHeartbeats 1000000 in
theorem delay_nan (hd : Dom last rate burst now ρ) (hn : 1 ≤ n ∧ n ≤ burst) (hz : double.sub (floatOfInt .f64 n) held = none) (b : Nat) (w : World) (hw : BucketAt w b tokens last) :
    Calls Try.prog 14 #[.pointer (some ⟨b, 0, none⟩), .agg #[.float .f64 rate, .int .i64 burst], .int .i64 now, .float .f64 held, .int .i64 n] w fun e w' => e = .returned (.int .i64 9223372036854775807) ∧ Below w.heap.size w w' := by
  have hBel : Below w.heap.size w (w.alloc (.cells #[.float .f64 rate, .int .i64 burst] 35)) := (Below.refl _ _).alloc (Nat.le_refl _) _
  have B0 : (w.alloc (.cells #[.float .f64 rate, .int .i64 burst] 35)).heap[w.heap.size]? = some (.cells #[.float .f64 rate, .int .i64 burst] 35 (0, 0)) := heap_alloc_new w _
  have k0 : (w.alloc (.cells #[.float .f64 rate, .int .i64 burst] 35)).cell? ⟨w.heap.size, 0, none⟩ = some (.float .f64 rate) := cell_of_row _ _ 0 _ _ _ B0
  have hsz : w.heap.size < (w.alloc (.cells #[.float .f64 rate, .int .i64 burst] 35)).heap.size := by simp
  have HK : Hid (_ = _) := k0
  have HC : Hid (BucketAt _ _ _ _) := hw.below hBel
  have HB : Hid (Below _ _ _) := hBel
  clear hBel B0 k0 hw
  have had := admits_any rate burst n
  rw [decide_eq_true hn] at had
  have HA : Hid _ := had
  have n1 := nan_arith (op := .sub) (.inr (.inl rfl)) hz
  have n2 : ∀ v x y c, FloatKind.f64.format.order (nanW v x y) c = none := fun v x y c => nan_order (nanW_nan v x y) c
  have n3 := nan_quo
  have n4 := nan_mul
  have n5 := max_ahead last now
  have hl1 := hd.l1
  have hl2 := hd.l2
  have hn1 := hd.n1
  have hn2 := hd.n2
  have hu : (ahead last now : Int) ≤ 4611686018427387904 := by unfold ahead; omega
  generalize ahead last now = u at *
  clear had hn hz hd
  go_enter Try.func14, Try.ntmps14
  go_wp2_with fail
  refine (HA.out _).mono ?_
  rintro e w1 ⟨rfl, hb1⟩
  have HB1 : Hid (Below _ _ _) := HB.out.trans (hb1.mono HB.out.size)
  have k0 := (hb1.cell (p := ⟨w.heap.size, 0, none⟩) hsz).trans HK.out
  have k1 := (HC.out.below hb1).las
  clear hb1 HB HA HK HC hsz
  go_wp2_with fail
  refine (ceil_call_nan (nanW_nan _ _ _) _).mono ?_
  rintro e w2 ⟨⟨z, rfl, hz⟩, hb2⟩
  have HB2 : Hid (Below _ _ _) := HB1.out.trans ((((drew_below' w1).trans ((drew_below' w1.drew).trans (drew_below' w1.drew.drew))).trans hb2).mono HB1.out.size)
  have n6 : ∀ c, FloatKind.f64.format.order z c = none := fun c => nan_order hz c
  clear hb2 HB1 hz
  go_wp2
  go_ret
  exact ⟨rfl, HB2.out⟩

set_option maxHeartbeats 1000000 in
theorem delay_wait (hd : Dom last rate burst now ρ) (hn : 1 ≤ n ∧ n ≤ burst) (zs zd zx σ χ : Nat) (hs : double.sub (floatOfInt .f64 n) held = some zs) (hσ : Rg zs σ) (hσ0 : 0 < σ)
    (hq : double.div zs rate = some zd) (hm : double.mul zd 4741671816366391296 = some zx) (hx : Rg zx χ) :
    ∃ r, WaitIs χ (ahead last now) r ∧ ∀ (b : Nat) (w : World), BucketAt w b tokens last →
    Calls Try.prog 14 #[.pointer (some ⟨b, 0, none⟩), .agg #[.float .f64 rate, .int .i64 burst], .int .i64 now, .float .f64 held, .int .i64 n] w fun e w' => e = .returned (.int .i64 r) ∧ Below w.heap.size w w' := by
  have n5 := max_ahead last now
  have hl1 := hd.l1
  have hl2 := hd.l2
  have hn1 := hd.n1
  have hn2 := hd.n2
  have hu : ahead last now ≤ 4611686018427387904 := by unfold ahead; omega
  generalize ahead last now = u at *
  obtain ⟨φ, hφ, nφ⟩ := rg_int (9223372036854775807 - u)
  rw [show ((9223372036854775807 - u : Nat) : Int) = 9223372036854775807 - (u : Int) by omega] at hφ
  obtain ⟨ν, hν, hνc⟩ := zc_rg hx
  have hlt := rg_lt hν hφ
  have a1 := arith (op := .sub) hs
  have a2 := arith (op := .quo) hq
  have a3 := arith (op := .mul) hm
  have a4 : (FloatKind.f64.format.order zs 0 == some .lt || FloatKind.f64.format.order zs 0 == some .eq) = false := by
    have e : FloatKind.f64.format.order zs 0 = some (compare σ 0) := hσ.order rg_nil
    rw [e, Nat.compare_eq_gt.2 hσ0]
    rfl
  have had := admits_any rate burst n
  rw [decide_eq_true hn] at had
  have HA : Hid _ := had
  have HX : Hid (Rg zx χ) := hx
  clear had
  by_cases hlt2 : ν < φ
  · rw [decide_eq_true hlt2] at hlt
    rcases hνc with ⟨_, hi⟩ | ⟨hf, M, hM, hvM⟩
    · have := nφ.le
      omega
    · have hMK := fits nφ hvM hlt2
      refine ⟨(u : Int) + M, ⟨φ, nφ, .inl ⟨M, ν, hf, hM, hvM, hlt2, rfl⟩⟩, fun b w hw => ?_⟩
      have a5 : ∀ w, (convert 22 30 (.float .f64 (zc zx))).run Try.prog w = .ok (.int .i64 M) w := fun w => run_convert_float_int w 22 30 .f64 .i64 (zc zx) M (by kernel_rfl) (by kernel_rfl) (int_of_rg hν hvM (by omega))
      have hBel : Below w.heap.size w (w.alloc (.cells #[.float .f64 rate, .int .i64 burst] 35)) := (Below.refl _ _).alloc (Nat.le_refl _) _
      have B0 : (w.alloc (.cells #[.float .f64 rate, .int .i64 burst] 35)).heap[w.heap.size]? = some (.cells #[.float .f64 rate, .int .i64 burst] 35 (0, 0)) := heap_alloc_new w _
      have k0 : (w.alloc (.cells #[.float .f64 rate, .int .i64 burst] 35)).cell? ⟨w.heap.size, 0, none⟩ = some (.float .f64 rate) := cell_of_row _ _ 0 _ _ _ B0
      have hsz : w.heap.size < (w.alloc (.cells #[.float .f64 rate, .int .i64 burst] 35)).heap.size := by simp
      have HK : Hid (_ = _) := k0
      have HC : Hid (BucketAt _ _ _ _) := hw.below hBel
      have HB : Hid (Below _ _ _) := hBel
      clear hBel B0 k0 hw hφ nφ hν hvM hM hs hq hm hσ hσ0 hd hx hf hlt2
      go_enter Try.func14, Try.ntmps14
      go_wp2_with fail
      refine (HA.out _).mono ?_
      rintro e w1 ⟨rfl, hb1⟩
      have HB1 : Hid (Below _ _ _) := HB.out.trans (hb1.mono HB.out.size)
      have k0 := (hb1.cell (p := ⟨w.heap.size, 0, none⟩) hsz).trans HK.out
      have k1 := (HC.out.below hb1).las
      clear hb1 HB HA HK HC hsz
      go_wp2_with fail
      refine (ceil_call HX.out _).mono ?_
      rintro e w2 ⟨rfl, rfl⟩
      generalize zc zx = zz at *
      go_wp2
      go_ret
      exact ⟨rfl, HB1.out⟩
  · rw [decide_eq_false hlt2] at hlt
    refine ⟨9223372036854775807, ⟨φ, nφ, .inr ⟨?_, rfl⟩⟩, fun b w hw => ?_⟩
    · rcases hνc with ⟨h1, _⟩ | ⟨hf, M, hM, hvM⟩
      · exact .inl h1
      · exact .inr ⟨M, ν, hf, hM, hvM, by omega⟩
    have hBel : Below w.heap.size w (w.alloc (.cells #[.float .f64 rate, .int .i64 burst] 35)) := (Below.refl _ _).alloc (Nat.le_refl _) _
    have B0 : (w.alloc (.cells #[.float .f64 rate, .int .i64 burst] 35)).heap[w.heap.size]? = some (.cells #[.float .f64 rate, .int .i64 burst] 35 (0, 0)) := heap_alloc_new w _
    have k0 : (w.alloc (.cells #[.float .f64 rate, .int .i64 burst] 35)).cell? ⟨w.heap.size, 0, none⟩ = some (.float .f64 rate) := cell_of_row _ _ 0 _ _ _ B0
    have hsz : w.heap.size < (w.alloc (.cells #[.float .f64 rate, .int .i64 burst] 35)).heap.size := by simp
    have HK : Hid (_ = _) := k0
    have HC : Hid (BucketAt _ _ _ _) := hw.below hBel
    have HB : Hid (Below _ _ _) := hBel
    clear hBel B0 k0 hw hφ nφ hν hνc hs hq hm hσ hσ0 hd hx hlt2
    go_enter Try.func14, Try.ntmps14
    go_wp2_with fail
    refine (HA.out _).mono ?_
    rintro e w1 ⟨rfl, hb1⟩
    have HB1 : Hid (Below _ _ _) := HB.out.trans (hb1.mono HB.out.size)
    have k0 := (hb1.cell (p := ⟨w.heap.size, 0, none⟩) hsz).trans HK.out
    have k1 := (HC.out.below hb1).las
    clear hb1 HB HA HK HC hsz
    go_wp2_with fail
    refine (ceil_call HX.out _).mono ?_
    rintro e w2 ⟨rfl, rfl⟩
    generalize zc zx = zz at *
    go_wp2
    go_ret
    exact ⟨rfl, HB1.out⟩

end
end Go.Proofs.Qxb6604567a
