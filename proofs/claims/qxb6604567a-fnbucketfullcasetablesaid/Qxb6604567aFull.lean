/-
  'full', 'ZZfull'.
-/
import Derived.Test.Qxb6604567aTok
import Derived.Deep.RegionWith
namespace Go.Proofs.Qxb6604567a
open Go.RowKit Ieee

theorem rg_ge {x y a b : Nat} (h : Rg x a) (g : Rg y b) : (FloatKind.f64.format.order x y == some .gt || FloatKind.f64.format.order x y == some .eq) = decide (b ≤ a) := by
  have ho : FloatKind.f64.format.order x y = some (compare a b) := h.order g
  rw [ho]
  rcases Nat.lt_trichotomy a b with hl | hl | hl
  · rw [Nat.compare_eq_lt.2 hl, decide_eq_false (by omega)]; rfl
  · rw [Nat.compare_eq_eq.2 hl, decide_eq_true (by omega)]; rfl
  · rw [Nat.compare_eq_gt.2 hl, decide_eq_true (by omega)]; rfl

theorem drew_below (w : World) : Below w.heap.size w w.drew := ⟨rfl, rfl, rfl, Nat.le_refl _, fun _ _ => rfl⟩

set_option maxHeartbeats 1000000 in
theorem full_any (tokens : Nat) (last : Int) (rate : Nat) (burst now : Int) (τ ρ β : Nat) (hτ : Rg tokens τ) (hd : Dom last rate burst now ρ) (hβ : Rg (floatOfInt .f64 burst) β) :
    ∃ κ, HeldAt τ ρ burst.toNat last now κ ∧ ∀ (b : Nat) (w : World), BucketAt w b tokens last →
      Calls Try.prog 12 #[.pointer (some ⟨b, 0, none⟩), .agg #[.float .f64 rate, .int .i64 burst], .int .i64 now] w fun e w' => e = .returned (.bool (decide (β ≤ κ))) ∧ Below w.heap.size w w' := by
  obtain ⟨z, κ, hz, hk, hc⟩ := tokensAt_any tokens last rate burst now τ ρ hτ hd
  refine ⟨κ, hk, fun b w hw => ?_⟩
  have hcmp := rg_ge hz hβ
  generalize decide (β ≤ κ) = bb at *
  clear hz hk hτ hd hβ
  have hBel : Below w.heap.size w (w.alloc (.cells #[.float .f64 rate, .int .i64 burst] 35)) := (Below.refl _ _).alloc (Nat.le_refl _) _
  have HC : Hid (BucketAt _ _ _ _) := hw.below hBel
  have B0 : (w.alloc (.cells #[.float .f64 rate, .int .i64 burst] 35)).heap[w.heap.size]? = some (.cells #[.float .f64 rate, .int .i64 burst] 35 (0, 0)) := heap_alloc_new w _
  have k0 : (w.alloc (.cells #[.float .f64 rate, .int .i64 burst] 35)).cell? ⟨w.heap.size, 0, none⟩ = some (.float .f64 rate) := cell_of_row _ _ 0 _ _ _ B0
  have k1 : (w.alloc (.cells #[.float .f64 rate, .int .i64 burst] 35)).cell? ⟨w.heap.size, 1, none⟩ = some (.int .i64 burst) := cell_of_row _ _ 1 _ _ _ B0
  have HT : Hid _ := hc
  have HB : Hid (Below _ _ _) := hBel
  have HK : Hid (_ = _) := B0
  have hsz : w.heap.size < (w.alloc (.cells #[.float .f64 rate, .int .i64 burst] 35)).heap.size := by simp
  clear hw hc B0 hBel
  go_enter Try.func12, Try.ntmps12
  go_wp2
  generalize (w.alloc (.cells #[.float .f64 rate, .int .i64 burst] 35)) = W at *
  go_region_with (go_at_call 13; refine (HT.out _ _ (HC.out.below (drew_below _))).mono ?_; rintro e w1 ⟨rfl, hb1⟩; have k0 := (hb1.cell (p := ⟨w.heap.size, 0, none⟩) (by exact hsz)).trans k0; have k1 := (hb1.cell (p := ⟨w.heap.size, 1, none⟩) (by exact hsz)).trans k1)
  all_goals (try go_wp2)
  all_goals go_ret
  all_goals exact ⟨rfl, HB.out.trans (((drew_below W).trans hb1).mono (Nat.le_of_lt hsz))⟩

set_option maxHeartbeats 1000000 in
theorem zzfull_any (tokens : Nat) (last : Int) (rate : Nat) (burst now : Int) (τ ρ β : Nat) (hτ : Rg tokens τ) (hd : Dom last rate burst now ρ) (hβ : Rg (floatOfInt .f64 burst) β) :
    ∃ κ, HeldAt τ ρ burst.toNat last now κ ∧ ∀ (w : World),
      Calls Try.prog 8 #[.float .f64 tokens, .int .i64 last, .float .f64 rate, .int .i64 burst, .int .i64 now] w fun e w' => e = .returned (.bool (decide (β ≤ κ))) ∧ Below w.heap.size w w' := by
  obtain ⟨κ, hk, hc⟩ := full_any tokens last rate burst now τ ρ β hτ hd hβ
  refine ⟨κ, hk, fun w => ?_⟩
  have hBel : Below w.heap.size w (w.alloc (.cells #[.float .f64 tokens, .int .i64 last] 32)) := (Below.refl _ _).alloc (Nat.le_refl _) _
  have hK : (w.alloc (.cells #[.float .f64 tokens, .int .i64 last] 32)).heap[w.heap.size]? = some (.cells #[.float .f64 tokens, .int .i64 last] 32 (0, 0)) := heap_alloc_new w _
  have HT : Hid (Calls _ _ _ _ _) := hc w.heap.size _ ⟨cell_of_row _ _ 0 _ _ _ hK, cell_of_row _ _ 1 _ _ _ hK, (Array.getElem?_eq_some_iff.1 hK).1⟩
  have HB : Hid (Below _ _ _) := hBel
  generalize decide (β ≤ κ) = bb at *
  clear hk hτ hd hβ hc hK hBel
  go_enter Try.func8, Try.ntmps8
  go_wp2_with fail
  refine HT.out.mono ?_
  rintro e w1 ⟨rfl, hb⟩
  have HB1 : Hid (Below _ _ _) := HB.out.trans (hb.mono HB.out.size)
  clear hb HB
  go_wp2
  go_ret
  exact ⟨rfl, HB1.out⟩

end Go.Proofs.Qxb6604567a
