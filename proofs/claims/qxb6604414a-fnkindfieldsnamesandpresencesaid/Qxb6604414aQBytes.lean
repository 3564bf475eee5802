/-
  'zzJB1QBytes' and 'zzJB1QTooBig'.
-/
import Derived.Test.Qxb6604414aBytes
namespace Go.Proofs.Qxb6604414a
open Go.RowKit

set_option maxHeartbeats 2000000 in
set_option maxRecDepth 100000 in
theorem qBytes_any (q : QIn) (w : World) (h : q.ok w) :
    Calls Try.prog 44 #[.agg q.cells] w fun e w' => RetInt e ∧ Below w.heap.size w w' := by
  obtain ⟨id, kd, tx, op, co, tl, al, ac, ⟨ga, gl, gc⟩, it, lf, rt, pk, pv, po, tm, ex, cb⟩ := q
  have hgl := h.ga.le
  have hgm := h.ga.max
  have hel := h.ga.elem
  have o1 := h.op
  have o2 := h.ac
  have o3 := h.it
  have o4 := h.lf
  have o5 := h.rt
  have o6 := h.pk
  have o7 := h.pv
  clear h
  unfold maxLen at hgm
  unfold QIn.cells
  simp only at *
  go_enter Try.func44, Try.ntmps44
  go_wp2_with (first
    | (go_at_call 10; refine (add_any _ _ _).mono ?_; rintro e w' ⟨⟨z', rfl⟩, rfl⟩)
    | (go_at_call 50; refine (optBytes_any ⟨_, _, _⟩ _ (o1.below ((Below.refl _ _).alloc (Nat.le_refl _) _))).mono ?_; rintro e w' ⟨⟨z', rfl⟩, rfl⟩)
    | (go_at_call 11; refine (strBytes_any ⟨_, _, _⟩ _ (o2.below ((Below.refl _ _).alloc (Nat.le_refl _) _))).mono ?_; rintro e w' ⟨⟨z', rfl⟩, rfl⟩))
  · go_ret
    exact ⟨.mk _, (Below.refl _ _).alloc (Nat.le_refl _) _⟩
  · go_loop [3, 4] (fun n i => ∃ (z : Int) (k : Nat), k ≤ gl ∧ i = .int .i64 k ∧ n = .int .i64 z) (fun _ i => gl - (intOf i).toNat)
    case atStart => exact ⟨_, 0, Nat.zero_le _, rfl, rfl⟩
    case round =>
      obtain ⟨z, k, hk, rfl, rfl⟩ := hrel
      by_cases hlt : k < gl
      · obtain ⟨b, off, rfl, hb, hc⟩ := hel (by omega)
        obtain ⟨x, hx, hs⟩ := hc k hlt
        clear hc hel o1 o2 o3 o4 o5 o6 o7
        go_wp2_with (first
          | (go_at_call 10; refine (add_any _ _ _).mono ?_; rintro e w' ⟨⟨z', rfl⟩, rfl⟩)
          | (go_at_call 11; refine (strBytes_any ⟨_, _, _⟩ _ (hs.below ((Below.refl _ _).alloc (Nat.le_refl _) _))).mono ?_; rintro e w' ⟨⟨z', rfl⟩, rfl⟩))
        go_round
        case rel => exact ⟨_, k + 1, by omega, by go_num, rfl⟩
        case measure => simp [intOf]; omega
      · clear hel o1 o2
        go_wp2_with fail
        refine (itBytes_any ⟨_, _, _⟩ _ (o3.below ((Below.refl _ _).alloc (Nat.le_refl _) _))).mono ?_
        rintro e w' ⟨⟨z', rfl⟩, rfl⟩
        go_wp2_with (go_at_call 10; refine (add_any _ _ _).mono ?_; rintro e w' ⟨⟨z', rfl⟩, rfl⟩)
        refine (itBytes_any ⟨_, _, _⟩ _ (o4.below ((Below.refl _ _).alloc (Nat.le_refl _) _))).mono ?_
        rintro e w' ⟨⟨z', rfl⟩, rfl⟩
        go_wp2_with (go_at_call 10; refine (add_any _ _ _).mono ?_; rintro e w' ⟨⟨z', rfl⟩, rfl⟩)
        refine (itBytes_any ⟨_, _, _⟩ _ (o5.below ((Below.refl _ _).alloc (Nat.le_refl _) _))).mono ?_
        rintro e w' ⟨⟨z', rfl⟩, rfl⟩
        go_wp2_with (go_at_call 10; refine (add_any _ _ _).mono ?_; rintro e w' ⟨⟨z', rfl⟩, rfl⟩)
        refine (strBytes_any ⟨_, _, _⟩ _ (o6.below ((Below.refl _ _).alloc (Nat.le_refl _) _))).mono ?_
        rintro e w' ⟨⟨z', rfl⟩, rfl⟩
        go_wp2_with (go_at_call 10; refine (add_any _ _ _).mono ?_; rintro e w' ⟨⟨z', rfl⟩, rfl⟩)
        refine (strBytes_any ⟨_, _, _⟩ _ (o7.below ((Below.refl _ _).alloc (Nat.le_refl _) _))).mono ?_
        rintro e w' ⟨⟨z', rfl⟩, rfl⟩
        clear o3 o4 o5 o6 o7
        cases po
        all_goals
          go_wp2_with (go_at_call 10; refine (add_any _ _ _).mono ?_; rintro e w' ⟨⟨z', rfl⟩, rfl⟩)
          go_ret
          exact ⟨.mk _, (Below.refl _ _).alloc (Nat.le_refl _) _⟩

/-- the lists are short -/
structure QIn.short (q : QIn) : Prop where
  op : q.op.len ≤ 65536
  ac : q.ac.len ≤ 65536
  ga : q.ga.len ≤ 65536
  it : q.it.len ≤ 65536
  lf : q.lf.len ≤ 65536
  rt : q.rt.len ≤ 65536
  pk : q.pk.len ≤ 65536
  pv : q.pv.len ≤ 65536

/-- it returned a bool; 'false' says p -/
def RetUnless (p : Prop) (e : Ending) : Prop := ∃ b, e = .returned (.bool b) ∧ (b = false → p)
theorem RetUnless.yes {p : Prop} : RetUnless p (.returned (.bool true)) := ⟨true, rfl, fun h => by cases h⟩
theorem RetUnless.no {p : Prop} (h : p) (b : Bool) : RetUnless p (.returned (.bool b)) := ⟨b, rfl, fun _ => h⟩

set_option maxHeartbeats 2000000 in
set_option maxRecDepth 100000 in
theorem qTooBig_any (q : QIn) (w : World) (h : q.ok w) :
    Calls Try.prog 28 #[.agg q.cells] w fun e w' => RetUnless q.short e ∧ Below w.heap.size w w' := by
  have hw : Below w.heap.size w (w.alloc (.cells q.cells 45)) := (Below.refl _ _).alloc (Nat.le_refl _) _
  have hq := qBytes_any q _ (h.below hw)
  clear h
  obtain ⟨id, kd, tx, op, co, tl, al, ac, ga, it, lf, rt, pk, pv, po, tm, ex, cb⟩ := q
  unfold QIn.cells at *
  simp only at *
  have H : Hid (Calls Try.prog 44 _ _ _) := hq
  clear hq
  go_enter Try.func28, Try.ntmps28
  by_cases h1 : 65536 < op.len
  · go_wp2
    go_ret
    exact ⟨.yes, hw⟩
  by_cases h2 : 65536 < ac.len
  · go_wp2
    go_ret
    exact ⟨.yes, hw⟩
  by_cases h3 : 65536 < ga.len
  · go_wp2
    go_ret
    exact ⟨.yes, hw⟩
  by_cases h4 : 65536 < it.len
  · go_wp2
    go_ret
    exact ⟨.yes, hw⟩
  by_cases h5 : 65536 < lf.len
  · go_wp2
    go_ret
    exact ⟨.yes, hw⟩
  by_cases h6 : 65536 < rt.len
  · go_wp2
    go_ret
    exact ⟨.yes, hw⟩
  by_cases h7 : 65536 < pk.len
  · go_wp2
    go_ret
    exact ⟨.yes, hw⟩
  by_cases h8 : 65536 < pv.len
  · go_wp2
    go_ret
    exact ⟨.yes, hw⟩
  go_wp2_with fail
  refine (H.out).mono ?_
  rintro e w' ⟨⟨z', rfl⟩, hb⟩
  go_wp2
  go_ret
  exact ⟨.no ⟨Nat.le_of_not_lt h1, Nat.le_of_not_lt h2, Nat.le_of_not_lt h3, Nat.le_of_not_lt h4, Nat.le_of_not_lt h5, Nat.le_of_not_lt h6, Nat.le_of_not_lt h7, Nat.le_of_not_lt h8⟩ _, hw.trans (hb.mono (by simp))⟩

end Go.Proofs.Qxb6604414a
