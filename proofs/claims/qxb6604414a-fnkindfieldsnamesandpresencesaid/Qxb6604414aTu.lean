/-
  'zzJB1Cleared', 'zzJB1SetOne': what becomes of the flags.
-/
import Derived.Test.Qxb6604414aCl
namespace Go.Proofs.Qxb6604414a
open Go.RowKit

/-- an input handed back whose flags are 'fl' -/
def Turned (fl : List Bool) (e : Ending) (w' : World) : Prop := ∃ q : QIn, e = .returned (.agg q.cells) ∧ q.ok w' ∧ q.short ∧ q.flags = fl

theorem QIn.all1 (q : QIn) : q.cells.all (·.oneCell') = true := by simp [QIn.cells, Value.oneCell']

theorem OptsAt.none' (w : World) (a : Option Addr) : OptsAt w ⟨a, 0, 0⟩ := ⟨Nat.le_refl _, Nat.zero_le _, fun h => absurd h (Nat.lt_irrefl 0)⟩
theorem StrsAt.none' (w : World) (a : Option Addr) : StrsAt w ⟨a, 0, 0⟩ := ⟨Nat.le_refl _, Nat.zero_le _, fun h => absurd h (Nat.lt_irrefl 0)⟩
theorem ItsAt.none' (w : World) (a : Option Addr) : ItsAt w ⟨a, 0, 0⟩ := ⟨Nat.le_refl _, Nat.zero_le _, fun h => absurd h (Nat.lt_irrefl 0)⟩
theorem GapsAt.none' (w : World) (a : Option Addr) : GapsAt w ⟨a, 0, 0⟩ := ⟨Nat.le_refl _, Nat.zero_le _, fun h => absurd h (Nat.lt_irrefl 0)⟩

theorem cleared0 (q : QIn) (w : World) (h : q.ok w) (hs : q.short) :
    Calls Try.prog 37 #[.agg q.cells, .int .i64 0] w fun e w' => Turned (q.flags.set 0 false) e w' ∧ Below w.heap.size w w' := by
  refine (clr0 q.cells (QIn.cells { q with op := ⟨none, 0, 0⟩ }) w rfl _ rfl (by kernel_rfl) (QIn.all1 _)).mono ?_
  rintro e w' ⟨rfl, hb⟩
  exact ⟨⟨{ q with op := ⟨none, 0, 0⟩ }, rfl, ⟨OptsAt.none' _ _, (h.below hb).co, (h.below hb).ac, (h.below hb).ga, (h.below hb).it, (h.below hb).lf, (h.below hb).rt, (h.below hb).pk, (h.below hb).pv, (h.below hb).id, (h.below hb).kd, (h.below hb).tx, (h.below hb).tl, (h.below hb).al, (h.below hb).tm⟩, ⟨Nat.zero_le _, hs.ac, hs.ga, hs.it, hs.lf, hs.rt, hs.pk, hs.pv⟩, by kernel_rfl⟩, hb⟩

theorem cleared1 (q : QIn) (w : World) (h : q.ok w) (hs : q.short) :
    Calls Try.prog 37 #[.agg q.cells, .int .i64 1] w fun e w' => Turned (q.flags.set 1 false) e w' ∧ Below w.heap.size w w' := by
  refine (clr1 q.cells (QIn.cells { q with co := ⟨some ⟨w.heap.size + 1 + 1, 0, none⟩, 4, 4⟩, cb := [110, 117, 108, 108] }) w rfl _ rfl (by kernel_rfl) (QIn.all1 _)).mono ?_
  rintro e w' ⟨rfl, hb, hco⟩
  exact ⟨⟨{ q with co := ⟨some ⟨w.heap.size + 1 + 1, 0, none⟩, 4, 4⟩, cb := [110, 117, 108, 108] }, rfl, ⟨(h.below hb).op, hco, (h.below hb).ac, (h.below hb).ga, (h.below hb).it, (h.below hb).lf, (h.below hb).rt, (h.below hb).pk, (h.below hb).pv, (h.below hb).id, (h.below hb).kd, (h.below hb).tx, (h.below hb).tl, (h.below hb).al, (h.below hb).tm⟩, ⟨hs.op, hs.ac, hs.ga, hs.it, hs.lf, hs.rt, hs.pk, hs.pv⟩, by kernel_rfl⟩, hb⟩

theorem cleared2 (q : QIn) (w : World) (h : q.ok w) (hs : q.short) :
    Calls Try.prog 37 #[.agg q.cells, .int .i64 2] w fun e w' => Turned (q.flags.set 2 false) e w' ∧ Below w.heap.size w w' := by
  refine (clr2 q.cells (QIn.cells { q with tl := ⟨#[]⟩ }) w rfl _ rfl (by kernel_rfl) (QIn.all1 _)).mono ?_
  rintro e w' ⟨rfl, hb⟩
  exact ⟨⟨{ q with tl := ⟨#[]⟩ }, rfl, ⟨(h.below hb).op, (h.below hb).co, (h.below hb).ac, (h.below hb).ga, (h.below hb).it, (h.below hb).lf, (h.below hb).rt, (h.below hb).pk, (h.below hb).pv, (h.below hb).id, (h.below hb).kd, (h.below hb).tx, by simp [maxLen, ByteArray.size], (h.below hb).al, (h.below hb).tm⟩, ⟨hs.op, hs.ac, hs.ga, hs.it, hs.lf, hs.rt, hs.pk, hs.pv⟩, by kernel_rfl⟩, hb⟩

theorem cleared3 (q : QIn) (w : World) (h : q.ok w) (hs : q.short) :
    Calls Try.prog 37 #[.agg q.cells, .int .i64 3] w fun e w' => Turned (q.flags.set 3 false) e w' ∧ Below w.heap.size w w' := by
  refine (clr3 q.cells (QIn.cells { q with al := ⟨#[]⟩ }) w rfl _ rfl (by kernel_rfl) (QIn.all1 _)).mono ?_
  rintro e w' ⟨rfl, hb⟩
  exact ⟨⟨{ q with al := ⟨#[]⟩ }, rfl, ⟨(h.below hb).op, (h.below hb).co, (h.below hb).ac, (h.below hb).ga, (h.below hb).it, (h.below hb).lf, (h.below hb).rt, (h.below hb).pk, (h.below hb).pv, (h.below hb).id, (h.below hb).kd, (h.below hb).tx, (h.below hb).tl, by simp [maxLen, ByteArray.size], (h.below hb).tm⟩, ⟨hs.op, hs.ac, hs.ga, hs.it, hs.lf, hs.rt, hs.pk, hs.pv⟩, by kernel_rfl⟩, hb⟩

theorem cleared4 (q : QIn) (w : World) (h : q.ok w) (hs : q.short) :
    Calls Try.prog 37 #[.agg q.cells, .int .i64 4] w fun e w' => Turned (q.flags.set 4 false) e w' ∧ Below w.heap.size w w' := by
  refine (clr4 q.cells (QIn.cells { q with ac := ⟨none, 0, 0⟩ }) w rfl _ rfl (by kernel_rfl) (QIn.all1 _)).mono ?_
  rintro e w' ⟨rfl, hb⟩
  exact ⟨⟨{ q with ac := ⟨none, 0, 0⟩ }, rfl, ⟨(h.below hb).op, (h.below hb).co, StrsAt.none' _ _, (h.below hb).ga, (h.below hb).it, (h.below hb).lf, (h.below hb).rt, (h.below hb).pk, (h.below hb).pv, (h.below hb).id, (h.below hb).kd, (h.below hb).tx, (h.below hb).tl, (h.below hb).al, (h.below hb).tm⟩, ⟨hs.op, Nat.zero_le _, hs.ga, hs.it, hs.lf, hs.rt, hs.pk, hs.pv⟩, by kernel_rfl⟩, hb⟩

theorem cleared5 (q : QIn) (w : World) (h : q.ok w) (hs : q.short) :
    Calls Try.prog 37 #[.agg q.cells, .int .i64 5] w fun e w' => Turned (q.flags.set 5 false) e w' ∧ Below w.heap.size w w' := by
  refine (clr5 q.cells (QIn.cells { q with ga := ⟨none, 0, 0⟩ }) w rfl _ rfl (by kernel_rfl) (QIn.all1 _)).mono ?_
  rintro e w' ⟨rfl, hb⟩
  exact ⟨⟨{ q with ga := ⟨none, 0, 0⟩ }, rfl, ⟨(h.below hb).op, (h.below hb).co, (h.below hb).ac, GapsAt.none' _ _, (h.below hb).it, (h.below hb).lf, (h.below hb).rt, (h.below hb).pk, (h.below hb).pv, (h.below hb).id, (h.below hb).kd, (h.below hb).tx, (h.below hb).tl, (h.below hb).al, (h.below hb).tm⟩, ⟨hs.op, hs.ac, Nat.zero_le _, hs.it, hs.lf, hs.rt, hs.pk, hs.pv⟩, by kernel_rfl⟩, hb⟩

theorem cleared6 (q : QIn) (w : World) (h : q.ok w) (hs : q.short) :
    Calls Try.prog 37 #[.agg q.cells, .int .i64 6] w fun e w' => Turned (q.flags.set 6 false) e w' ∧ Below w.heap.size w w' := by
  refine (clr6 q.cells (QIn.cells { q with it := ⟨none, 0, 0⟩ }) w rfl _ rfl (by kernel_rfl) (QIn.all1 _)).mono ?_
  rintro e w' ⟨rfl, hb⟩
  exact ⟨⟨{ q with it := ⟨none, 0, 0⟩ }, rfl, ⟨(h.below hb).op, (h.below hb).co, (h.below hb).ac, (h.below hb).ga, ItsAt.none' _ _, (h.below hb).lf, (h.below hb).rt, (h.below hb).pk, (h.below hb).pv, (h.below hb).id, (h.below hb).kd, (h.below hb).tx, (h.below hb).tl, (h.below hb).al, (h.below hb).tm⟩, ⟨hs.op, hs.ac, hs.ga, Nat.zero_le _, hs.lf, hs.rt, hs.pk, hs.pv⟩, by kernel_rfl⟩, hb⟩

theorem cleared7 (q : QIn) (w : World) (h : q.ok w) (hs : q.short) :
    Calls Try.prog 37 #[.agg q.cells, .int .i64 7] w fun e w' => Turned (q.flags.set 7 false) e w' ∧ Below w.heap.size w w' := by
  refine (clr7 q.cells (QIn.cells { q with lf := ⟨none, 0, 0⟩ }) w rfl _ rfl (by kernel_rfl) (QIn.all1 _)).mono ?_
  rintro e w' ⟨rfl, hb⟩
  exact ⟨⟨{ q with lf := ⟨none, 0, 0⟩ }, rfl, ⟨(h.below hb).op, (h.below hb).co, (h.below hb).ac, (h.below hb).ga, (h.below hb).it, ItsAt.none' _ _, (h.below hb).rt, (h.below hb).pk, (h.below hb).pv, (h.below hb).id, (h.below hb).kd, (h.below hb).tx, (h.below hb).tl, (h.below hb).al, (h.below hb).tm⟩, ⟨hs.op, hs.ac, hs.ga, hs.it, Nat.zero_le _, hs.rt, hs.pk, hs.pv⟩, by kernel_rfl⟩, hb⟩

theorem cleared8 (q : QIn) (w : World) (h : q.ok w) (hs : q.short) :
    Calls Try.prog 37 #[.agg q.cells, .int .i64 8] w fun e w' => Turned (q.flags.set 8 false) e w' ∧ Below w.heap.size w w' := by
  refine (clr8 q.cells (QIn.cells { q with rt := ⟨none, 0, 0⟩ }) w rfl _ rfl (by kernel_rfl) (QIn.all1 _)).mono ?_
  rintro e w' ⟨rfl, hb⟩
  exact ⟨⟨{ q with rt := ⟨none, 0, 0⟩ }, rfl, ⟨(h.below hb).op, (h.below hb).co, (h.below hb).ac, (h.below hb).ga, (h.below hb).it, (h.below hb).lf, ItsAt.none' _ _, (h.below hb).pk, (h.below hb).pv, (h.below hb).id, (h.below hb).kd, (h.below hb).tx, (h.below hb).tl, (h.below hb).al, (h.below hb).tm⟩, ⟨hs.op, hs.ac, hs.ga, hs.it, hs.lf, Nat.zero_le _, hs.pk, hs.pv⟩, by kernel_rfl⟩, hb⟩

theorem cleared9 (q : QIn) (w : World) (h : q.ok w) (hs : q.short) :
    Calls Try.prog 37 #[.agg q.cells, .int .i64 9] w fun e w' => Turned (q.flags.set 9 false) e w' ∧ Below w.heap.size w w' := by
  refine (clr9 q.cells (QIn.cells { q with pk := ⟨none, 0, 0⟩ }) w rfl _ rfl (by kernel_rfl) (QIn.all1 _)).mono ?_
  rintro e w' ⟨rfl, hb⟩
  exact ⟨⟨{ q with pk := ⟨none, 0, 0⟩ }, rfl, ⟨(h.below hb).op, (h.below hb).co, (h.below hb).ac, (h.below hb).ga, (h.below hb).it, (h.below hb).lf, (h.below hb).rt, StrsAt.none' _ _, (h.below hb).pv, (h.below hb).id, (h.below hb).kd, (h.below hb).tx, (h.below hb).tl, (h.below hb).al, (h.below hb).tm⟩, ⟨hs.op, hs.ac, hs.ga, hs.it, hs.lf, hs.rt, Nat.zero_le _, hs.pv⟩, by kernel_rfl⟩, hb⟩

theorem cleared10 (q : QIn) (w : World) (h : q.ok w) (hs : q.short) :
    Calls Try.prog 37 #[.agg q.cells, .int .i64 10] w fun e w' => Turned (q.flags.set 10 false) e w' ∧ Below w.heap.size w w' := by
  refine (clr10 q.cells (QIn.cells { q with po := none }) w rfl _ rfl (by kernel_rfl) (QIn.all1 _)).mono ?_
  rintro e w' ⟨rfl, hb⟩
  exact ⟨⟨{ q with po := none }, rfl, ⟨(h.below hb).op, (h.below hb).co, (h.below hb).ac, (h.below hb).ga, (h.below hb).it, (h.below hb).lf, (h.below hb).rt, (h.below hb).pk, (h.below hb).pv, (h.below hb).id, (h.below hb).kd, (h.below hb).tx, (h.below hb).tl, (h.below hb).al, (h.below hb).tm⟩, ⟨hs.op, hs.ac, hs.ga, hs.it, hs.lf, hs.rt, hs.pk, hs.pv⟩, by kernel_rfl⟩, hb⟩

theorem cleared11 (q : QIn) (w : World) (h : q.ok w) (hs : q.short) :
    Calls Try.prog 37 #[.agg q.cells, .int .i64 11] w fun e w' => Turned (q.flags.set 11 false) e w' ∧ Below w.heap.size w w' := by
  refine (clr11 q.cells (QIn.cells { q with tm := ⟨#[]⟩ }) w rfl _ rfl (by kernel_rfl) (QIn.all1 _)).mono ?_
  rintro e w' ⟨rfl, hb⟩
  exact ⟨⟨{ q with tm := ⟨#[]⟩ }, rfl, ⟨(h.below hb).op, (h.below hb).co, (h.below hb).ac, (h.below hb).ga, (h.below hb).it, (h.below hb).lf, (h.below hb).rt, (h.below hb).pk, (h.below hb).pv, (h.below hb).id, (h.below hb).kd, (h.below hb).tx, (h.below hb).tl, (h.below hb).al, by simp [maxLen, ByteArray.size]⟩, ⟨hs.op, hs.ac, hs.ga, hs.it, hs.lf, hs.rt, hs.pk, hs.pv⟩, by kernel_rfl⟩, hb⟩

theorem cleared12 (q : QIn) (w : World) (h : q.ok w) (hs : q.short) :
    Calls Try.prog 37 #[.agg q.cells, .int .i64 12] w fun e w' => Turned (q.flags.set 12 false) e w' ∧ Below w.heap.size w w' := by
  refine (clr12 q.cells (QIn.cells { q with ex := false }) w rfl _ rfl (by kernel_rfl) (QIn.all1 _)).mono ?_
  rintro e w' ⟨rfl, hb⟩
  exact ⟨⟨{ q with ex := false }, rfl, ⟨(h.below hb).op, (h.below hb).co, (h.below hb).ac, (h.below hb).ga, (h.below hb).it, (h.below hb).lf, (h.below hb).rt, (h.below hb).pk, (h.below hb).pv, (h.below hb).id, (h.below hb).kd, (h.below hb).tx, (h.below hb).tl, (h.below hb).al, (h.below hb).tm⟩, ⟨hs.op, hs.ac, hs.ga, hs.it, hs.lf, hs.rt, hs.pk, hs.pv⟩, by kernel_rfl⟩, hb⟩

theorem cleared_any (q : QIn) (i : Nat) (hi : i < 13) (w : World) (h : q.ok w) (hs : q.short) :
    Calls Try.prog 37 #[.agg q.cells, .int .i64 i] w fun e w' => Turned (q.flags.set i false) e w' ∧ Below w.heap.size w w' := by
  match i, hi with
  | 0, _ => exact cleared0 q w h hs
  | 1, _ => exact cleared1 q w h hs
  | 2, _ => exact cleared2 q w h hs
  | 3, _ => exact cleared3 q w h hs
  | 4, _ => exact cleared4 q w h hs
  | 5, _ => exact cleared5 q w h hs
  | 6, _ => exact cleared6 q w h hs
  | 7, _ => exact cleared7 q w h hs
  | 8, _ => exact cleared8 q w h hs
  | 9, _ => exact cleared9 q w h hs
  | 10, _ => exact cleared10 q w h hs
  | 11, _ => exact cleared11 q w h hs
  | 12, _ => exact cleared12 q w h hs

theorem setOne0 (q : QIn) (w : World) (h : q.ok w) (hs : q.short) :
    Calls Try.prog 38 #[.agg q.cells, .int .i64 0] w fun e w' => Turned (q.flags.set 0 true) e w' ∧ Below w.heap.size w w' := by
  refine (one0 q.cells (QIn.cells { q with op := ⟨some ⟨w.heap.size + 1 + 1, 0, none⟩, 0, 0⟩ }) w rfl _ rfl (by kernel_rfl) (QIn.all1 _)).mono ?_
  rintro e w' ⟨rfl, hb⟩
  exact ⟨⟨{ q with op := ⟨some ⟨w.heap.size + 1 + 1, 0, none⟩, 0, 0⟩ }, rfl, ⟨OptsAt.none' _ _, (h.below hb).co, (h.below hb).ac, (h.below hb).ga, (h.below hb).it, (h.below hb).lf, (h.below hb).rt, (h.below hb).pk, (h.below hb).pv, (h.below hb).id, (h.below hb).kd, (h.below hb).tx, (h.below hb).tl, (h.below hb).al, (h.below hb).tm⟩, ⟨Nat.zero_le _, hs.ac, hs.ga, hs.it, hs.lf, hs.rt, hs.pk, hs.pv⟩, by kernel_rfl⟩, hb⟩

theorem setOne1 (q : QIn) (w : World) (h : q.ok w) (hs : q.short) :
    Calls Try.prog 38 #[.agg q.cells, .int .i64 1] w fun e w' => Turned (q.flags.set 1 true) e w' ∧ Below w.heap.size w w' := by
  refine (one1 q.cells (QIn.cells { q with co := ⟨some ⟨w.heap.size + 1 + 1, 0, none⟩, 1, 1⟩, cb := [49] }) w rfl _ rfl (by kernel_rfl) (QIn.all1 _)).mono ?_
  rintro e w' ⟨rfl, hb, hco⟩
  exact ⟨⟨{ q with co := ⟨some ⟨w.heap.size + 1 + 1, 0, none⟩, 1, 1⟩, cb := [49] }, rfl, ⟨(h.below hb).op, hco, (h.below hb).ac, (h.below hb).ga, (h.below hb).it, (h.below hb).lf, (h.below hb).rt, (h.below hb).pk, (h.below hb).pv, (h.below hb).id, (h.below hb).kd, (h.below hb).tx, (h.below hb).tl, (h.below hb).al, (h.below hb).tm⟩, ⟨hs.op, hs.ac, hs.ga, hs.it, hs.lf, hs.rt, hs.pk, hs.pv⟩, by kernel_rfl⟩, hb⟩

theorem setOne2 (q : QIn) (w : World) (h : q.ok w) (hs : q.short) :
    Calls Try.prog 38 #[.agg q.cells, .int .i64 2] w fun e w' => Turned (q.flags.set 2 true) e w' ∧ Below w.heap.size w w' := by
  refine (one2 q.cells (QIn.cells { q with tl := ⟨#[49]⟩ }) w rfl _ rfl (by kernel_rfl) (QIn.all1 _)).mono ?_
  rintro e w' ⟨rfl, hb⟩
  exact ⟨⟨{ q with tl := ⟨#[49]⟩ }, rfl, ⟨(h.below hb).op, (h.below hb).co, (h.below hb).ac, (h.below hb).ga, (h.below hb).it, (h.below hb).lf, (h.below hb).rt, (h.below hb).pk, (h.below hb).pv, (h.below hb).id, (h.below hb).kd, (h.below hb).tx, by simp [maxLen, ByteArray.size], (h.below hb).al, (h.below hb).tm⟩, ⟨hs.op, hs.ac, hs.ga, hs.it, hs.lf, hs.rt, hs.pk, hs.pv⟩, by kernel_rfl⟩, hb⟩

theorem setOne3 (q : QIn) (w : World) (h : q.ok w) (hs : q.short) :
    Calls Try.prog 38 #[.agg q.cells, .int .i64 3] w fun e w' => Turned (q.flags.set 3 true) e w' ∧ Below w.heap.size w w' := by
  refine (one3 q.cells (QIn.cells { q with al := ⟨#[49]⟩ }) w rfl _ rfl (by kernel_rfl) (QIn.all1 _)).mono ?_
  rintro e w' ⟨rfl, hb⟩
  exact ⟨⟨{ q with al := ⟨#[49]⟩ }, rfl, ⟨(h.below hb).op, (h.below hb).co, (h.below hb).ac, (h.below hb).ga, (h.below hb).it, (h.below hb).lf, (h.below hb).rt, (h.below hb).pk, (h.below hb).pv, (h.below hb).id, (h.below hb).kd, (h.below hb).tx, (h.below hb).tl, by simp [maxLen, ByteArray.size], (h.below hb).tm⟩, ⟨hs.op, hs.ac, hs.ga, hs.it, hs.lf, hs.rt, hs.pk, hs.pv⟩, by kernel_rfl⟩, hb⟩

theorem setOne4 (q : QIn) (w : World) (h : q.ok w) (hs : q.short) :
    Calls Try.prog 38 #[.agg q.cells, .int .i64 4] w fun e w' => Turned (q.flags.set 4 true) e w' ∧ Below w.heap.size w w' := by
  refine (one4 q.cells (QIn.cells { q with ac := ⟨some ⟨w.heap.size + 1 + 1, 0, none⟩, 0, 0⟩ }) w rfl _ rfl (by kernel_rfl) (QIn.all1 _)).mono ?_
  rintro e w' ⟨rfl, hb⟩
  exact ⟨⟨{ q with ac := ⟨some ⟨w.heap.size + 1 + 1, 0, none⟩, 0, 0⟩ }, rfl, ⟨(h.below hb).op, (h.below hb).co, StrsAt.none' _ _, (h.below hb).ga, (h.below hb).it, (h.below hb).lf, (h.below hb).rt, (h.below hb).pk, (h.below hb).pv, (h.below hb).id, (h.below hb).kd, (h.below hb).tx, (h.below hb).tl, (h.below hb).al, (h.below hb).tm⟩, ⟨hs.op, Nat.zero_le _, hs.ga, hs.it, hs.lf, hs.rt, hs.pk, hs.pv⟩, by kernel_rfl⟩, hb⟩

theorem setOne5 (q : QIn) (w : World) (h : q.ok w) (hs : q.short) :
    Calls Try.prog 38 #[.agg q.cells, .int .i64 5] w fun e w' => Turned (q.flags.set 5 true) e w' ∧ Below w.heap.size w w' := by
  refine (one5 q.cells (QIn.cells { q with ga := ⟨some ⟨w.heap.size + 1 + 1, 0, none⟩, 0, 0⟩ }) w rfl _ rfl (by kernel_rfl) (QIn.all1 _)).mono ?_
  rintro e w' ⟨rfl, hb⟩
  exact ⟨⟨{ q with ga := ⟨some ⟨w.heap.size + 1 + 1, 0, none⟩, 0, 0⟩ }, rfl, ⟨(h.below hb).op, (h.below hb).co, (h.below hb).ac, GapsAt.none' _ _, (h.below hb).it, (h.below hb).lf, (h.below hb).rt, (h.below hb).pk, (h.below hb).pv, (h.below hb).id, (h.below hb).kd, (h.below hb).tx, (h.below hb).tl, (h.below hb).al, (h.below hb).tm⟩, ⟨hs.op, hs.ac, Nat.zero_le _, hs.it, hs.lf, hs.rt, hs.pk, hs.pv⟩, by kernel_rfl⟩, hb⟩

theorem setOne6 (q : QIn) (w : World) (h : q.ok w) (hs : q.short) :
    Calls Try.prog 38 #[.agg q.cells, .int .i64 6] w fun e w' => Turned (q.flags.set 6 true) e w' ∧ Below w.heap.size w w' := by
  refine (one6 q.cells (QIn.cells { q with it := ⟨some ⟨w.heap.size + 1 + 1, 0, none⟩, 0, 0⟩ }) w rfl _ rfl (by kernel_rfl) (QIn.all1 _)).mono ?_
  rintro e w' ⟨rfl, hb⟩
  exact ⟨⟨{ q with it := ⟨some ⟨w.heap.size + 1 + 1, 0, none⟩, 0, 0⟩ }, rfl, ⟨(h.below hb).op, (h.below hb).co, (h.below hb).ac, (h.below hb).ga, ItsAt.none' _ _, (h.below hb).lf, (h.below hb).rt, (h.below hb).pk, (h.below hb).pv, (h.below hb).id, (h.below hb).kd, (h.below hb).tx, (h.below hb).tl, (h.below hb).al, (h.below hb).tm⟩, ⟨hs.op, hs.ac, hs.ga, Nat.zero_le _, hs.lf, hs.rt, hs.pk, hs.pv⟩, by kernel_rfl⟩, hb⟩

theorem setOne7 (q : QIn) (w : World) (h : q.ok w) (hs : q.short) :
    Calls Try.prog 38 #[.agg q.cells, .int .i64 7] w fun e w' => Turned (q.flags.set 7 true) e w' ∧ Below w.heap.size w w' := by
  refine (one7 q.cells (QIn.cells { q with lf := ⟨some ⟨w.heap.size + 1 + 1, 0, none⟩, 0, 0⟩ }) w rfl _ rfl (by kernel_rfl) (QIn.all1 _)).mono ?_
  rintro e w' ⟨rfl, hb⟩
  exact ⟨⟨{ q with lf := ⟨some ⟨w.heap.size + 1 + 1, 0, none⟩, 0, 0⟩ }, rfl, ⟨(h.below hb).op, (h.below hb).co, (h.below hb).ac, (h.below hb).ga, (h.below hb).it, ItsAt.none' _ _, (h.below hb).rt, (h.below hb).pk, (h.below hb).pv, (h.below hb).id, (h.below hb).kd, (h.below hb).tx, (h.below hb).tl, (h.below hb).al, (h.below hb).tm⟩, ⟨hs.op, hs.ac, hs.ga, hs.it, Nat.zero_le _, hs.rt, hs.pk, hs.pv⟩, by kernel_rfl⟩, hb⟩

theorem setOne8 (q : QIn) (w : World) (h : q.ok w) (hs : q.short) :
    Calls Try.prog 38 #[.agg q.cells, .int .i64 8] w fun e w' => Turned (q.flags.set 8 true) e w' ∧ Below w.heap.size w w' := by
  refine (one8 q.cells (QIn.cells { q with rt := ⟨some ⟨w.heap.size + 1 + 1, 0, none⟩, 0, 0⟩ }) w rfl _ rfl (by kernel_rfl) (QIn.all1 _)).mono ?_
  rintro e w' ⟨rfl, hb⟩
  exact ⟨⟨{ q with rt := ⟨some ⟨w.heap.size + 1 + 1, 0, none⟩, 0, 0⟩ }, rfl, ⟨(h.below hb).op, (h.below hb).co, (h.below hb).ac, (h.below hb).ga, (h.below hb).it, (h.below hb).lf, ItsAt.none' _ _, (h.below hb).pk, (h.below hb).pv, (h.below hb).id, (h.below hb).kd, (h.below hb).tx, (h.below hb).tl, (h.below hb).al, (h.below hb).tm⟩, ⟨hs.op, hs.ac, hs.ga, hs.it, hs.lf, Nat.zero_le _, hs.pk, hs.pv⟩, by kernel_rfl⟩, hb⟩

theorem setOne9 (q : QIn) (w : World) (h : q.ok w) (hs : q.short) :
    Calls Try.prog 38 #[.agg q.cells, .int .i64 9] w fun e w' => Turned (q.flags.set 9 true) e w' ∧ Below w.heap.size w w' := by
  refine (one9 q.cells (QIn.cells { q with pk := ⟨some ⟨w.heap.size + 1 + 1, 0, none⟩, 0, 0⟩ }) w rfl _ rfl (by kernel_rfl) (QIn.all1 _)).mono ?_
  rintro e w' ⟨rfl, hb⟩
  exact ⟨⟨{ q with pk := ⟨some ⟨w.heap.size + 1 + 1, 0, none⟩, 0, 0⟩ }, rfl, ⟨(h.below hb).op, (h.below hb).co, (h.below hb).ac, (h.below hb).ga, (h.below hb).it, (h.below hb).lf, (h.below hb).rt, StrsAt.none' _ _, (h.below hb).pv, (h.below hb).id, (h.below hb).kd, (h.below hb).tx, (h.below hb).tl, (h.below hb).al, (h.below hb).tm⟩, ⟨hs.op, hs.ac, hs.ga, hs.it, hs.lf, hs.rt, Nat.zero_le _, hs.pv⟩, by kernel_rfl⟩, hb⟩

theorem setOne10 (q : QIn) (w : World) (h : q.ok w) (hs : q.short) :
    Calls Try.prog 38 #[.agg q.cells, .int .i64 10] w fun e w' => Turned (q.flags.set 10 true) e w' ∧ Below w.heap.size w w' := by
  refine (one10 q.cells (QIn.cells { q with po := some ⟨w.heap.size + 1 + 1, 0, none⟩ }) w rfl _ rfl (by kernel_rfl) (QIn.all1 _)).mono ?_
  rintro e w' ⟨rfl, hb⟩
  exact ⟨⟨{ q with po := some ⟨w.heap.size + 1 + 1, 0, none⟩ }, rfl, ⟨(h.below hb).op, (h.below hb).co, (h.below hb).ac, (h.below hb).ga, (h.below hb).it, (h.below hb).lf, (h.below hb).rt, (h.below hb).pk, (h.below hb).pv, (h.below hb).id, (h.below hb).kd, (h.below hb).tx, (h.below hb).tl, (h.below hb).al, (h.below hb).tm⟩, ⟨hs.op, hs.ac, hs.ga, hs.it, hs.lf, hs.rt, hs.pk, hs.pv⟩, by kernel_rfl⟩, hb⟩

theorem setOne11 (q : QIn) (w : World) (h : q.ok w) (hs : q.short) :
    Calls Try.prog 38 #[.agg q.cells, .int .i64 11] w fun e w' => Turned (q.flags.set 11 true) e w' ∧ Below w.heap.size w w' := by
  refine (one11 q.cells (QIn.cells { q with tm := ⟨#[49]⟩ }) w rfl _ rfl (by kernel_rfl) (QIn.all1 _)).mono ?_
  rintro e w' ⟨rfl, hb⟩
  exact ⟨⟨{ q with tm := ⟨#[49]⟩ }, rfl, ⟨(h.below hb).op, (h.below hb).co, (h.below hb).ac, (h.below hb).ga, (h.below hb).it, (h.below hb).lf, (h.below hb).rt, (h.below hb).pk, (h.below hb).pv, (h.below hb).id, (h.below hb).kd, (h.below hb).tx, (h.below hb).tl, (h.below hb).al, by simp [maxLen, ByteArray.size]⟩, ⟨hs.op, hs.ac, hs.ga, hs.it, hs.lf, hs.rt, hs.pk, hs.pv⟩, by kernel_rfl⟩, hb⟩

theorem setOne12 (q : QIn) (w : World) (h : q.ok w) (hs : q.short) :
    Calls Try.prog 38 #[.agg q.cells, .int .i64 12] w fun e w' => Turned (q.flags.set 12 true) e w' ∧ Below w.heap.size w w' := by
  refine (one12 q.cells (QIn.cells { q with ex := true }) w rfl _ rfl (by kernel_rfl) (QIn.all1 _)).mono ?_
  rintro e w' ⟨rfl, hb⟩
  exact ⟨⟨{ q with ex := true }, rfl, ⟨(h.below hb).op, (h.below hb).co, (h.below hb).ac, (h.below hb).ga, (h.below hb).it, (h.below hb).lf, (h.below hb).rt, (h.below hb).pk, (h.below hb).pv, (h.below hb).id, (h.below hb).kd, (h.below hb).tx, (h.below hb).tl, (h.below hb).al, (h.below hb).tm⟩, ⟨hs.op, hs.ac, hs.ga, hs.it, hs.lf, hs.rt, hs.pk, hs.pv⟩, by kernel_rfl⟩, hb⟩

theorem setOne_any (q : QIn) (i : Nat) (hi : i < 13) (w : World) (h : q.ok w) (hs : q.short) :
    Calls Try.prog 38 #[.agg q.cells, .int .i64 i] w fun e w' => Turned (q.flags.set i true) e w' ∧ Below w.heap.size w w' := by
  match i, hi with
  | 0, _ => exact setOne0 q w h hs
  | 1, _ => exact setOne1 q w h hs
  | 2, _ => exact setOne2 q w h hs
  | 3, _ => exact setOne3 q w h hs
  | 4, _ => exact setOne4 q w h hs
  | 5, _ => exact setOne5 q w h hs
  | 6, _ => exact setOne6 q w h hs
  | 7, _ => exact setOne7 q w h hs
  | 8, _ => exact setOne8 q w h hs
  | 9, _ => exact setOne9 q w h hs
  | 10, _ => exact setOne10 q w h hs
  | 11, _ => exact setOne11 q w h hs
  | 12, _ => exact setOne12 q w h hs

end Go.Proofs.Qxb6604414a

