/-
  'zzJB1AllCleared', 'zzJB1AllLeast'.
-/
import Derived.Test.Qxb6604414aTv
namespace Go.Proofs.Qxb6604414a
open Go.RowKit

/-- the first k flags turned to b -/
def upto (b : Bool) (fl : List Bool) (k : Nat) : List Bool := List.replicate k b ++ fl.drop k

theorem upto_step (b : Bool) (fl : List Bool) (k : Nat) (h : k < fl.length) : (upto b fl k).set k b = upto b fl (k + 1) := by
  unfold upto
  rw [List.set_append_right _ _ (by simp), List.length_replicate, Nat.sub_self, List.drop_eq_getElem_cons h, List.set_cons_zero, List.replicate_succ', List.append_assoc]
  rfl

theorem setRow_self {w : World} {g : Nat} {cs : Array Value} {t : TypeId} {fr : Nat × Nat} (h : w.heap[g]? = some (.cells cs t fr)) : w.setRow g cs = w := by
  have hlt : g < w.heap.size := (Array.getElem?_eq_some_iff.1 h).1
  have hv : w.heap[g] = .cells cs t fr := (Array.getElem?_eq_some_iff.1 h).2
  unfold World.setRow
  cases w with
  | mk heap tape drawn os output =>
    congr 1
    apply Array.ext
    · simp
    · intro k h1 h2
      simp only [Array.getElem_modify]
      split
      · rename_i hk
        subst hk
        simp at hv
        simp [hv]
      · rfl

/-- between two rounds -/
structure Two (w wr : World) (q : QIn) : Prop where
  box : wr.heap[w.heap.size]? = some (.cells q.cells 45 (0, 0))
  res : wr.heap[w.heap.size + 1]? = some (.cells zeroI 45 (0, 0))
  bel : Below w.heap.size w wr

theorem Two.below {w wr w' : World} {q : QIn} (h : Two w wr q) (hb : Below wr.heap.size wr w') : Two w w' q :=
  have hl : w.heap.size + 1 < wr.heap.size := (Array.getElem?_eq_some_iff.1 h.res).1
  ⟨(hb.block _ (by omega)).trans h.box, (hb.block _ hl).trans h.res, h.bel.trans (hb.mono (by omega))⟩

theorem Two.put {w wr : World} {q : QIn} (h : Two w wr q) (r : QIn) : Two w (wr.setRow w.heap.size r.cells) r :=
  ⟨setRow_heap _ _ _ _ _ _ h.box, (setRow_other _ _ _ _ (by omega)).trans h.res, below_setRow h.bel (Nat.le_refl _) _⟩

theorem Two.start (w : World) (q : QIn) : Two w ((w.alloc (.cells q.cells 45)).alloc (.cells zeroI 45)) q := ⟨heap_alloc2_old w _ _, heap_alloc2_new w _ _, below2 w _ _⟩

theorem size45 (q : QIn) : (Try.prog.info? 45).map (·.size) = some q.cells.size := by kernel_rfl

set_option maxHeartbeats 1000000 in
set_option maxRecDepth 100000 in
theorem allCleared_any (q : QIn) (w : World) (h : q.ok w) (hs : q.short) :
    Calls Try.prog 33 #[.agg q.cells] w fun e w' => Turned (List.replicate 13 false) e w' ∧ Below w.heap.size w w' := by
  have T0 : Hid (Two _ _ _) := Two.start w q
  have H : Hid (QIn.ok _ _) := h.below T0.out.bel
  have H0 : Hid (∀ cs cs', q.ok ((((w.alloc (.cells q.cells 45)).alloc (.cells zeroI 45)).setRow w.heap.size cs).setRow (w.heap.size + 1) cs')) := fun cs cs' => h.below (below_setRow (below_setRow (below2 w _ _) (Nat.le_refl _) _) (by omega) _)
  have HS : Hid (QIn.short _) := hs
  have LN : Hid (q.flags.length = 13) := rfl
  clear h hs
  go_enter Try.func33, Try.ntmps33
  go_wp2_with fail
  go_loopw [3] (fun i wr => ∃ (k : Nat) (r : QIn), k ≤ 13 ∧ i = .int .i64 k ∧ Two w wr r ∧ r.ok wr ∧ r.short ∧ r.flags = upto false q.flags k ∧ ∀ cs cs', r.ok ((wr.setRow w.heap.size cs).setRow (w.heap.size + 1) cs')) (fun i _ => 13 - (intOf i).toNat)
  case atStart => exact ⟨0, q, by omega, rfl, T0.out, H.out, HS.out, rfl, H0.out⟩
  case round =>
    clear T0 H HS H0
    obtain ⟨k, r, hk, rfl, ht, hok, hsh, hfl, hav⟩ := hrel
    have AV : Hid (∀ cs cs', r.ok ((wr.setRow w.heap.size cs).setRow (w.heap.size + 1) cs')) := hav
    have T : Hid (Two _ _ _) := ht
    have OK : Hid (QIn.ok _ _) := hok
    have SH : Hid (QIn.short _) := hsh
    have FL : Hid (r.flags = _) := hfl
    clear ht hok hsh hfl hav
    by_cases hk13 : k < 13
    · go_wp2_with (refine wpList_load_row rfl 45 _ rfl w.heap.size rfl 45 r.cells (0, 0) _ T.out.box Try.underlying45 rfl (size45 r) ?_)
      refine (cleared2_any r k hk13 _ OK.out SH.out).mono ?_
      rintro e v1 ⟨⟨r1, rfl, hok, hsh, hfl, hav⟩, hb⟩
      have T1 : Hid (Two _ _ _) := T.out.below hb
      have hlt : w.heap.size + 1 < wr.heap.size := (Array.getElem?_eq_some_iff.1 T.out.res).1
      have AV1 : Hid (∀ cs cs', r1.ok ((v1.setRow w.heap.size cs).setRow (w.heap.size + 1) cs')) := fun cs cs' =>
        hav _ _ (below_both (below_both hb w.heap.size cs (by omega)) (w.heap.size + 1) cs' (by rw [setRow_size]; omega)) (AV.out cs cs') (by simp) (fun b o hbo => by
          rw [cell_setRow_other _ _ _ _ (by simp only; omega), cell_setRow_other _ _ _ _ (by simp only; omega)])
      have SH1 : Hid (QIn.short _) := hsh
      have FL1 : Hid (r1.flags = upto false q.flags (k + 1)) := by rw [← upto_step _ _ _ (by rw [LN.out]; exact hk13), ← FL.out]; exact hfl
      clear hb hok hsh hfl hav T OK SH FL AV hlt
      go_wp2_with (refine wpList_store_row rfl 45 _ _ rfl w.heap.size r1.cells rfl rfl 45 r.cells T1.out.box (size45 r1) rfl (QIn.all1 r1) ?_)
      refine ⟨⟨k + 1, r1, by omega, by go_num, T1.out.put r1, ?_, SH1.out, FL1.out, fun cs cs' => by rw [setRow_setRow]; exact AV1.out cs cs'⟩, by simp [intOf]; omega⟩
      have hx := AV1.out r1.cells zeroI
      rwa [setRow_self (T1.out.put r1).res] at hx
    · obtain rfl : k = 13 := by omega
      go_wp2_with (first
        | (refine wpList_load_row rfl 45 _ rfl w.heap.size rfl 45 r.cells (0, 0) _ T.out.box Try.underlying45 rfl (size45 r) ?_)
        | (refine wpList_store_row rfl 45 _ _ rfl (w.heap.size + 1) r.cells rfl rfl 45 zeroI T.out.res (size45 r) rfl (QIn.all1 r) ?_))
      have hB := below_setRow T.out.bel (g := w.heap.size + 1) (by omega) r.cells
      have hl : w.heap.size + 1 < wr.heap.size := (Array.getElem?_eq_some_iff.1 T.out.res).1
      refine bodyPost_ret (v := .agg r.cells) (results_cell_row Try.results33 _ _ (w.heap.size + 1) 45 r.cells (0, 0) _ rfl (setRow_heap _ _ zeroI r.cells _ _ T.out.res) Try.underlying45 rfl (size45 r)) rfl ⟨⟨r, rfl, ?_, SH.out, FL.out⟩, hB⟩
      have hx := AV.out r.cells r.cells
      rwa [setRow_self T.out.box] at hx

set_option maxHeartbeats 1000000 in
set_option maxRecDepth 100000 in
theorem allLeast_any (q : QIn) (w : World) (h : q.ok w) (hs : q.short) :
    Calls Try.prog 34 #[.agg q.cells] w fun e w' => Turned (List.replicate 13 true) e w' ∧ Below w.heap.size w w' := by
  have T0 : Hid (Two _ _ _) := Two.start w q
  have H : Hid (QIn.ok _ _) := h.below T0.out.bel
  have H0 : Hid (∀ cs cs', q.ok ((((w.alloc (.cells q.cells 45)).alloc (.cells zeroI 45)).setRow w.heap.size cs).setRow (w.heap.size + 1) cs')) := fun cs cs' => h.below (below_setRow (below_setRow (below2 w _ _) (Nat.le_refl _) _) (by omega) _)
  have HS : Hid (QIn.short _) := hs
  have LN : Hid (q.flags.length = 13) := rfl
  clear h hs
  go_enter Try.func34, Try.ntmps34
  go_wp2_with fail
  go_loopw [3] (fun i wr => ∃ (k : Nat) (r : QIn), k ≤ 13 ∧ i = .int .i64 k ∧ Two w wr r ∧ r.ok wr ∧ r.short ∧ r.flags = upto true q.flags k ∧ ∀ cs cs', r.ok ((wr.setRow w.heap.size cs).setRow (w.heap.size + 1) cs')) (fun i _ => 13 - (intOf i).toNat)
  case atStart => exact ⟨0, q, by omega, rfl, T0.out, H.out, HS.out, rfl, H0.out⟩
  case round =>
    clear T0 H HS H0
    obtain ⟨k, r, hk, rfl, ht, hok, hsh, hfl, hav⟩ := hrel
    have AV : Hid (∀ cs cs', r.ok ((wr.setRow w.heap.size cs).setRow (w.heap.size + 1) cs')) := hav
    have T : Hid (Two _ _ _) := ht
    have OK : Hid (QIn.ok _ _) := hok
    have SH : Hid (QIn.short _) := hsh
    have FL : Hid (r.flags = _) := hfl
    clear ht hok hsh hfl hav
    by_cases hk13 : k < 13
    · go_wp2_with (refine wpList_load_row rfl 45 _ rfl w.heap.size rfl 45 r.cells (0, 0) _ T.out.box Try.underlying45 rfl (size45 r) ?_)
      refine (setOne2_any r k hk13 _ OK.out SH.out).mono ?_
      rintro e v1 ⟨⟨r1, rfl, hok, hsh, hfl, hav⟩, hb⟩
      have T1 : Hid (Two _ _ _) := T.out.below hb
      have hlt : w.heap.size + 1 < wr.heap.size := (Array.getElem?_eq_some_iff.1 T.out.res).1
      have AV1 : Hid (∀ cs cs', r1.ok ((v1.setRow w.heap.size cs).setRow (w.heap.size + 1) cs')) := fun cs cs' =>
        hav _ _ (below_both (below_both hb w.heap.size cs (by omega)) (w.heap.size + 1) cs' (by rw [setRow_size]; omega)) (AV.out cs cs') (by simp) (fun b o hbo => by
          rw [cell_setRow_other _ _ _ _ (by simp only; omega), cell_setRow_other _ _ _ _ (by simp only; omega)])
      have SH1 : Hid (QIn.short _) := hsh
      have FL1 : Hid (r1.flags = upto true q.flags (k + 1)) := by rw [← upto_step _ _ _ (by rw [LN.out]; exact hk13), ← FL.out]; exact hfl
      clear hb hok hsh hfl hav T OK SH FL AV hlt
      go_wp2_with (refine wpList_store_row rfl 45 _ _ rfl w.heap.size r1.cells rfl rfl 45 r.cells T1.out.box (size45 r1) rfl (QIn.all1 r1) ?_)
      refine ⟨⟨k + 1, r1, by omega, by go_num, T1.out.put r1, ?_, SH1.out, FL1.out, fun cs cs' => by rw [setRow_setRow]; exact AV1.out cs cs'⟩, by simp [intOf]; omega⟩
      have hx := AV1.out r1.cells zeroI
      rwa [setRow_self (T1.out.put r1).res] at hx
    · obtain rfl : k = 13 := by omega
      go_wp2_with (first
        | (refine wpList_load_row rfl 45 _ rfl w.heap.size rfl 45 r.cells (0, 0) _ T.out.box Try.underlying45 rfl (size45 r) ?_)
        | (refine wpList_store_row rfl 45 _ _ rfl (w.heap.size + 1) r.cells rfl rfl 45 zeroI T.out.res (size45 r) rfl (QIn.all1 r) ?_))
      have hB := below_setRow T.out.bel (g := w.heap.size + 1) (by omega) r.cells
      have hl : w.heap.size + 1 < wr.heap.size := (Array.getElem?_eq_some_iff.1 T.out.res).1
      refine bodyPost_ret (v := .agg r.cells) (results_cell_row Try.results34 _ _ (w.heap.size + 1) 45 r.cells (0, 0) _ rfl (setRow_heap _ _ zeroI r.cells _ _ T.out.res) Try.underlying45 rfl (size45 r)) rfl ⟨⟨r, rfl, ?_, SH.out, FL.out⟩, hB⟩
      have hx := AV.out r.cells r.cells
      rwa [setRow_self T.out.box] at hx

end Go.Proofs.Qxb6604414a

