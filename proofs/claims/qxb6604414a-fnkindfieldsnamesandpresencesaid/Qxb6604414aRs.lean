/-
  'zzJB1Reshaped'.
-/
import Derived.Test.Qxb6604414aTu
import Derived.Test.Qxb6604414aSlim
namespace Go.Proofs.Qxb6604414a
open Go.RowKit

theorem OptsAt.half {w : World} {s : Sl} (h : OptsAt w s) : OptsAt w ⟨s.a, s.len / 2, s.cap⟩ :=
  ⟨by have := h.le; simp only; omega, h.max, fun hp => by
    simp only at hp
    obtain ⟨b, off, e, hb, hc⟩ := h.elem (by omega)
    exact ⟨b, off, e, hb, fun i hi => hc i (by simp only at hi; omega)⟩⟩
theorem StrsAt.half {w : World} {s : Sl} (h : StrsAt w s) : StrsAt w ⟨s.a, s.len / 2, s.cap⟩ :=
  ⟨by have := h.le; simp only; omega, h.max, fun hp => by
    simp only at hp
    obtain ⟨b, off, e, hb, hc⟩ := h.elem (by omega)
    exact ⟨b, off, e, hb, fun i hi => hc i (by simp only at hi; omega)⟩⟩
theorem ItsAt.half {w : World} {s : Sl} (h : ItsAt w s) : ItsAt w ⟨s.a, s.len / 2, s.cap⟩ :=
  ⟨by have := h.le; simp only; omega, h.max, fun hp => by
    simp only at hp
    obtain ⟨b, off, e, hb, hc⟩ := h.elem (by omega)
    exact ⟨b, off, e, hb, fun i hi => hc i (by simp only at hi; omega)⟩⟩
theorem GapsAt.half {w : World} {s : Sl} (h : GapsAt w s) : GapsAt w ⟨s.a, s.len / 2, s.cap⟩ :=
  ⟨by have := h.le; simp only; omega, h.max, fun hp => by
    simp only at hp
    obtain ⟨b, off, e, hb, hc⟩ := h.elem (by omega)
    exact ⟨b, off, e, hb, fun i hi => hc i (by simp only at hi; omega)⟩⟩

theorem empty_twice (a : ByteArray) : (a ++ a).toList.isEmpty = a.toList.isEmpty := by
  rw [ByteArray.toList_eq, ByteArray.toList_eq, ByteArray.data_append, Array.toList_append]
  cases a.data.toList <;> rfl

/-- cut in halves, written twice -/
def QIn.reshape (q : QIn) : QIn := { q with
  id := q.id ++ ⟨#[35]⟩, kd := q.kd ++ ⟨#[35]⟩, tx := q.tx ++ ⟨#[35]⟩, op := ⟨q.op.a, q.op.len / 2, q.op.cap⟩, tl := q.tl ++ q.tl, al := q.al ++ q.al, ac := ⟨q.ac.a, q.ac.len / 2, q.ac.cap⟩,
  ga := ⟨q.ga.a, q.ga.len / 2, q.ga.cap⟩, it := ⟨q.it.a, q.it.len / 2, q.it.cap⟩, lf := ⟨q.lf.a, q.lf.len / 2, q.lf.cap⟩, rt := ⟨q.rt.a, q.rt.len / 2, q.rt.cap⟩, pk := ⟨q.pk.a, q.pk.len / 2, q.pk.cap⟩, tm := q.tm ++ q.tm }

theorem reshape_flags (q : QIn) : q.reshape.flags = q.flags := by
  unfold QIn.flags QIn.reshape
  simp only [empty_twice]

theorem app_le (a b : ByteArray) (ha : a.size ≤ 1048576) (hb : b.size ≤ 1048576) : (a ++ b).size ≤ maxLen := by
  rw [ByteArray.size_append]
  unfold maxLen
  omega

theorem reshape_ok {q : QIn} {w : World} (h : q.ok w) (hl : q.slim) : q.reshape.ok w :=
  ⟨h.op.half, h.co, h.ac.half, h.ga.half, h.it.half, h.lf.half, h.rt.half, h.pk.half, h.pv, app_le _ _ hl.id (by decide), app_le _ _ hl.kd (by decide), app_le _ _ hl.tx (by decide), app_le _ _ hl.tl hl.tl, app_le _ _ hl.al hl.al, app_le _ _ hl.tm hl.tm⟩

theorem reshape_short {q : QIn} (h : q.short) : q.reshape.short :=
  ⟨Nat.le_trans (Nat.div_le_self _ _) h.op, Nat.le_trans (Nat.div_le_self _ _) h.ac, Nat.le_trans (Nat.div_le_self _ _) h.ga, Nat.le_trans (Nat.div_le_self _ _) h.it, Nat.le_trans (Nat.div_le_self _ _) h.lf, Nat.le_trans (Nat.div_le_self _ _) h.rt, Nat.le_trans (Nat.div_le_self _ _) h.pk, h.pv⟩

set_option maxHeartbeats 2000000 in
set_option maxRecDepth 100000 in
theorem reshaped_any (q : QIn) (w : World) (h : q.ok w) (hs : q.short) (hl : q.slim) :
    Calls Try.prog 32 #[.agg q.cells] w fun e w' => Turned q.flags e w' ∧ Below w.heap.size w w' := by
  have H : Hid (QIn.ok _ _) := h
  have HS : Hid (QIn.short _) := hs
  have HL : Hid (QIn.slim _) := hl
  obtain ⟨id, kd, tx, op, co, tl, al, ac, ga, it, lf, rt, pk, pv, po, tm, ex, cb⟩ := q
  have a1 := h.op.le
  have a2 := h.ac.le
  have a3 := h.ga.le
  have a4 := h.it.le
  have a5 := h.lf.le
  have a6 := h.rt.le
  have a7 := h.pk.le
  have b1 := hs.op
  have b2 := hs.ac
  have b3 := hs.ga
  have b4 := hs.it
  have b5 := hs.lf
  have b6 := hs.rt
  have b7 := hs.pk
  have c1 := hl.id
  have c2 := hl.kd
  have c3 := hl.tx
  have c4 := hl.tl
  have c5 := hl.al
  have c6 := hl.tm
  clear h hs hl
  unfold QIn.cells
  simp only at *
  go_enter Try.func32, Try.ntmps32
  go_upto_region 14 with (fail)
  have hT : ∀ r : QIn, (Try.prog.info? 45).map (·.size) = some r.cells.size := fun r => by kernel_rfl
  clear a1 a2 a3 a4 a5 a6 a7 b1 b2 b3 b4 b5 b6 b7 c1 c2 c3 c4 c5 c6
  have A1 : Hid (QIn.ok _ _) := reshape_ok H.out HL.out
  have A2 : Hid (QIn.short _) := reshape_short HS.out
  have A3 : Hid (_ = _) := reshape_flags ⟨id, kd, tx, op, co, tl, al, ac, ga, it, lf, rt, pk, pv, po, tm, ex, cb⟩
  clear H HS HL
  generalize hr : QIn.reshape ⟨id, kd, tx, op, co, tl, al, ac, ga, it, lf, rt, pk, pv, po, tm, ex, cb⟩ = r at A1 A2 A3
  have hrc : r.cells = #[.string (id ++ ⟨#[35]⟩), .string (kd ++ ⟨#[35]⟩), .string (tx ++ ⟨#[35]⟩), .slice op.a (op.len / 2) op.cap, .slice co.a co.len co.cap, .string (tl ++ tl), .string (al ++ al), .slice ac.a (ac.len / 2) ac.cap, .slice ga.a (ga.len / 2) ga.cap, .slice it.a (it.len / 2) it.cap, .slice lf.a (lf.len / 2) lf.cap, .slice rt.a (rt.len / 2) rt.cap, .slice pk.a (pk.len / 2) pk.cap, .slice pv.a pv.len pv.cap, .pointer po, .string (tm ++ tm), .bool ex] := by subst hr; rfl
  have hall := QIn.all1 r
  have hi := hT r
  clear hr hT
  rw [← hrc]
  have HA : Hid (_ = _) := hall
  have HI : Hid (_ = _) := hi
  clear hrc hall hi
  go_wp2_with (first
    | (refine wpList_load_row rfl 45 _ rfl w.heap.size rfl 45 r.cells (0, 0) _ (heap_alloc2_old w _ _) Try.underlying45 rfl HI.out ?_)
    | (refine wpList_store_row rfl 45 _ _ rfl (w.heap.size + 1) r.cells rfl rfl 45 zeroI (heap_alloc2_new w _ _) HI.out rfl HA.out ?_))
  refine bodyPost_ret (v := .agg r.cells) (results_cell_row Try.results32 _ _ (w.heap.size + 1) 45 r.cells (0, 0) _ rfl (setRow_heap _ _ zeroI r.cells _ _ (heap_alloc2_new w _ _)) Try.underlying45 rfl HI.out) rfl ⟨⟨r, rfl, A1.out.below (below_setRow (below2 w _ _) (by omega) _), A2.out, A3.out⟩, below_setRow (below2 w _ _) (by omega) _⟩

end Go.Proofs.Qxb6604414a
