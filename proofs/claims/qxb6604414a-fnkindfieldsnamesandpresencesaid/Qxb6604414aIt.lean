/-
  'zzJB1ToItems'.
-/
import Derived.Test.Qxb6604414aKG
import Derived.RegionTactic
import Derived.ChangeAlike
import Derived.BigRegion
namespace Go.Proofs.Qxb6604414a
open Go.RowKit

/-- it returned a slice, nil just where 'a' is -/
def RetLike (a : Option Addr) (e : Ending) : Prop := ∃ s : Sl, e = .returned (.slice s.a s.len s.cap) ∧ s.a.isSome = a.isSome

/-- a row of n cells of the call's own: each there, none frozen -/
structure Own (w : World) (b n : Nat) : Prop where
  there : ∀ j, j < n → ∃ v, w.cell? ⟨b, j, none⟩ = some v
  free : ∀ j, w.frozen? ⟨b, j, none⟩ = false

theorem Own.setCell {w : World} {b n : Nat} (h : Own w b n) (a : Addr) (v : Value) : Own (w.setCell a v) b n := by
  refine ⟨fun j hj => ?_, fun j => by simp [h.free j]⟩
  obtain ⟨u, hu⟩ := h.there j hj
  by_cases e : a = ⟨b, j, none⟩
  · subst e; exact ⟨_, World.cell?_setCell_same _ _ _ hu⟩
  · exact ⟨u, (World.cell?_setCell_other _ _ _ _ e).trans hu⟩

theorem Own.drew {w : World} {b n : Nat} (h : Own w b n) : Own w.drew b n := ⟨h.there, h.free⟩

theorem Own.made {w : World} {b : Nat} {cs : Array Value} {t : TypeId} (hg : w.heap[b]? = some (.cells cs t (0, 0))) : Own w b cs.size :=
  ⟨fun j hj => ⟨cs[j], by rw [cell_of_row w b j cs t _ hg]; simp [hj]⟩, fun j => frozen_of_row w b j cs t hg⟩

theorem Own.below {w w' : World} {b n B : Nat} (h : Own w b n) (hb : Below B w w') (hlt : b < B) : Own w' b n :=
  ⟨fun j hj => by obtain ⟨v, hv⟩ := h.there j hj; exact ⟨v, (hb.cell (p := ⟨b, j, none⟩) hlt).trans hv⟩, fun j => (hb.frozen (p := ⟨b, j, none⟩) hlt).trans (h.free j)⟩

theorem Try.info30 : (Try.prog.info? 30).map (fun i => (i.zero, i.size, i.bytes)) = some (some (.agg #[.string ⟨#[]⟩, .string ⟨#[]⟩]), 2, 32) := by kernel_rfl

theorem mk26 (w : World) (n : Nat) (hn : n ≤ 65536) : ∃ cs, cs.size = n * 2 ∧ (Instr.makeSlice 26 (.int .i64 n) (.int .i64 n)).run Try.prog w = .ok (.slice (some ⟨w.heap.size, 0, none⟩) n n) (w.alloc (.cells cs 30)) := by
  obtain ⟨i, hi, hz0, hz1, hz2⟩ := info_parts Try.info30
  have := run_make (P := Try.prog) w 26 30 i _ Try.underlying26 hi hz0 .i64 .i64 n n (by omega) (by omega) (by rw [hz2]; omega) (by omega)
  simp only [Int.toNat_natCast, hz1] at this
  exact ⟨_, size_madeCells _ _, this⟩

set_option maxHeartbeats 1000000 in
set_option maxRecDepth 100000 in
theorem toItems_any (s : Sl) (w : World) (h : ItsAt w s) (hs : s.len ≤ 65536) :
    Calls Try.prog 46 #[.slice s.a s.len s.cap] w fun e w' => RetLike s.a e ∧ Below w.heap.size w w' := by
  have n42 := fun (w : World) a n c => Lib.run_eql_slice_nil (P := Try.prog) w 42 _ a n c 0 0 Try.underlying42
  have hel := h.elem
  clear h
  obtain ⟨a, len, cap⟩ := s
  simp only at *
  cases a with
  | none =>
    clear hel
    go_enter Try.func46, Try.ntmps46
    go_wp2
    go_ret
    exact ⟨⟨⟨none, 0, 0⟩, rfl, rfl⟩, Below.refl _ _⟩
  | some a =>
    obtain ⟨cs, hcs, hmk⟩ := mk26 w len hs
    go_enter Try.func46, Try.ntmps46
    go_wp2
    go_loopw [4] (fun i wr => ∃ k : Nat, k ≤ len ∧ i = .int .i64 k ∧ Own wr w.heap.size (len * 2) ∧ Below w.heap.size w wr) (fun i _ => len - (intOf i).toNat)
    case atStart => exact ⟨0, Nat.zero_le _, rfl, hcs ▸ Own.made (heap_alloc_new _ _), (Below.refl _ _).alloc (Nat.le_refl _) _⟩
    case round =>
      obtain ⟨k, hk, rfl, ho, hb⟩ := hrel
      clear n42 hmk hcs
      by_cases hlt : k < len
      · obtain ⟨b, off, e, hbl, hc⟩ := hel (by omega)
        cases e
        obtain ⟨x, y, hx, hy, _, _⟩ := hc k hlt
        have hx' := (hb.cell (p := ⟨b, off + k * 2, none⟩) hbl).trans hx
        have hy' := (hb.cell (p := ⟨b, off + k * 2 + 1, none⟩) hbl).trans hy
        obtain ⟨v1, c1⟩ := ho.there (k * 2) (by omega)
        obtain ⟨v2, c2⟩ := ho.there (k * 2 + 1) (by omega)
        have f1 := ho.free (k * 2)
        have f2 := ho.free (k * 2 + 1)
        have HO : Hid _ := ho
        clear ho hx hy hc hel
        go_wp2
        go_region
        go_wp2
        go_roundw
        case rel => exact ⟨k + 1, by omega, by go_num, ((HO.out.setCell _ _).setCell _ _).drew, ((hb.setCell (by simp) _).setCell (by simp) _).drew⟩
        case measure => simp [intOf]; omega
      · clear hel ho
        go_wp2
        go_ret
        exact ⟨⟨⟨_, _, _⟩, rfl, rfl⟩, hb⟩

end Go.Proofs.Qxb6604414a
