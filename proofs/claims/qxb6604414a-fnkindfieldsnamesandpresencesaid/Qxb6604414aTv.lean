/-
  'zzJB1Cleared', 'zzJB1SetOne': what becomes of the flags; and a block that the input does not lead to may be overwritten.
-/
import Derived.Test.Qxb6604414aTu
namespace Go.Proofs.Qxb6604414a
open Go.RowKit
set_option linter.unusedVariables false

/-- an input handed back whose flags are 'fl'; where the elder input is well laid in another world, so is this one -/
def Turned2 (q0 : QIn) (w : World) (fl : List Bool) (e : Ending) (w' : World) : Prop :=
  ∃ q : QIn, e = .returned (.agg q.cells) ∧ q.ok w' ∧ q.short ∧ q.flags = fl ∧
    ∀ v v' : World, Below v.heap.size v v' → q0.ok v → w'.heap.size ≤ v'.heap.size → (∀ b o, w.heap.size ≤ b → v'.cell? ⟨b, o, none⟩ = w'.cell? ⟨b, o, none⟩) → q.ok v'

theorem below_both {w w' : World} (h : Below w.heap.size w w') (B : Nat) (cs : Array Value) (hB : B < w.heap.size) : Below (w.setRow B cs).heap.size (w.setRow B cs) (w'.setRow B cs) := by
  refine ⟨h.os, h.tape, h.output, by simpa using h.size, fun k hk => ?_⟩
  rw [setRow_size] at hk
  by_cases e : k = B
  · subst e
    simp only [World.setRow, Array.getElem?_modify]
    rw [h.block k hk]
  · rw [setRow_other _ _ _ _ e, setRow_other _ _ _ _ e]
    exact h.block k hk

theorem bytes_move {w' v' : World} {b n : Nat} {cb : List Int} (h : BytesAt w' ⟨some ⟨b, 0, none⟩, n, n⟩ cb) (hs : w'.heap.size ≤ v'.heap.size) (hc : ∀ o, v'.cell? ⟨b, o, none⟩ = w'.cell? ⟨b, o, none⟩) : BytesAt v' ⟨some ⟨b, 0, none⟩, n, n⟩ cb := by
  refine ⟨h.le, h.max, h.length, fun hl => ?_⟩
  obtain ⟨b', off, e, hlt, hd⟩ := h.elem hl
  cases e
  exact ⟨b, 0, rfl, Nat.lt_of_lt_of_le hlt hs, fun i hi => (hc _).trans (hd i hi)⟩

theorem cleared2_0 (q : QIn) (w : World) (h : q.ok w) (hs : q.short) :
    Calls Try.prog 37 #[.agg q.cells, .int .i64 0] w fun e w' => Turned2 q w (q.flags.set 0 false) e w' ∧ Below w.heap.size w w' := by
  refine (clr0 q.cells (QIn.cells { q with op := ⟨none, 0, 0⟩ }) w rfl _ rfl (by kernel_rfl) (QIn.all1 _)).mono ?_
  rintro e w' ⟨rfl, hb⟩
  refine ⟨⟨{ q with op := ⟨none, 0, 0⟩ }, rfl, ⟨OptsAt.none' _ _, (h.below hb).co, (h.below hb).ac, (h.below hb).ga, (h.below hb).it, (h.below hb).lf, (h.below hb).rt, (h.below hb).pk, (h.below hb).pv, (h.below hb).id, (h.below hb).kd, (h.below hb).tx, (h.below hb).tl, (h.below hb).al, (h.below hb).tm⟩, ⟨Nat.zero_le _, hs.ac, hs.ga, hs.it, hs.lf, hs.rt, hs.pk, hs.pv⟩, by kernel_rfl, fun v v' hv h2 hz hc => ?_⟩, hb⟩
  have h3 := h2.below hv
  exact ⟨OptsAt.none' _ _, h3.co, h3.ac, h3.ga, h3.it, h3.lf, h3.rt, h3.pk, h3.pv, h3.id, h3.kd, h3.tx, h3.tl, h3.al, h3.tm⟩

theorem cleared2_1 (q : QIn) (w : World) (h : q.ok w) (hs : q.short) :
    Calls Try.prog 37 #[.agg q.cells, .int .i64 1] w fun e w' => Turned2 q w (q.flags.set 1 false) e w' ∧ Below w.heap.size w w' := by
  refine (clr1 q.cells (QIn.cells { q with co := ⟨some ⟨w.heap.size + 1 + 1, 0, none⟩, 4, 4⟩, cb := [110, 117, 108, 108] }) w rfl _ rfl (by kernel_rfl) (QIn.all1 _)).mono ?_
  rintro e w' ⟨rfl, hb, hco⟩
  refine ⟨⟨{ q with co := ⟨some ⟨w.heap.size + 1 + 1, 0, none⟩, 4, 4⟩, cb := [110, 117, 108, 108] }, rfl, ⟨(h.below hb).op, hco, (h.below hb).ac, (h.below hb).ga, (h.below hb).it, (h.below hb).lf, (h.below hb).rt, (h.below hb).pk, (h.below hb).pv, (h.below hb).id, (h.below hb).kd, (h.below hb).tx, (h.below hb).tl, (h.below hb).al, (h.below hb).tm⟩, ⟨hs.op, hs.ac, hs.ga, hs.it, hs.lf, hs.rt, hs.pk, hs.pv⟩, by kernel_rfl, fun v v' hv h2 hz hc => ?_⟩, hb⟩
  have h3 := h2.below hv
  exact ⟨h3.op, (bytes_move hco hz (fun o => hc _ o (by omega))), h3.ac, h3.ga, h3.it, h3.lf, h3.rt, h3.pk, h3.pv, h3.id, h3.kd, h3.tx, h3.tl, h3.al, h3.tm⟩

theorem cleared2_2 (q : QIn) (w : World) (h : q.ok w) (hs : q.short) :
    Calls Try.prog 37 #[.agg q.cells, .int .i64 2] w fun e w' => Turned2 q w (q.flags.set 2 false) e w' ∧ Below w.heap.size w w' := by
  refine (clr2 q.cells (QIn.cells { q with tl := ⟨#[]⟩ }) w rfl _ rfl (by kernel_rfl) (QIn.all1 _)).mono ?_
  rintro e w' ⟨rfl, hb⟩
  refine ⟨⟨{ q with tl := ⟨#[]⟩ }, rfl, ⟨(h.below hb).op, (h.below hb).co, (h.below hb).ac, (h.below hb).ga, (h.below hb).it, (h.below hb).lf, (h.below hb).rt, (h.below hb).pk, (h.below hb).pv, (h.below hb).id, (h.below hb).kd, (h.below hb).tx, by simp [maxLen, ByteArray.size], (h.below hb).al, (h.below hb).tm⟩, ⟨hs.op, hs.ac, hs.ga, hs.it, hs.lf, hs.rt, hs.pk, hs.pv⟩, by kernel_rfl, fun v v' hv h2 hz hc => ?_⟩, hb⟩
  have h3 := h2.below hv
  exact ⟨h3.op, h3.co, h3.ac, h3.ga, h3.it, h3.lf, h3.rt, h3.pk, h3.pv, h3.id, h3.kd, h3.tx, by simp [maxLen, ByteArray.size], h3.al, h3.tm⟩

theorem cleared2_3 (q : QIn) (w : World) (h : q.ok w) (hs : q.short) :
    Calls Try.prog 37 #[.agg q.cells, .int .i64 3] w fun e w' => Turned2 q w (q.flags.set 3 false) e w' ∧ Below w.heap.size w w' := by
  refine (clr3 q.cells (QIn.cells { q with al := ⟨#[]⟩ }) w rfl _ rfl (by kernel_rfl) (QIn.all1 _)).mono ?_
  rintro e w' ⟨rfl, hb⟩
  refine ⟨⟨{ q with al := ⟨#[]⟩ }, rfl, ⟨(h.below hb).op, (h.below hb).co, (h.below hb).ac, (h.below hb).ga, (h.below hb).it, (h.below hb).lf, (h.below hb).rt, (h.below hb).pk, (h.below hb).pv, (h.below hb).id, (h.below hb).kd, (h.below hb).tx, (h.below hb).tl, by simp [maxLen, ByteArray.size], (h.below hb).tm⟩, ⟨hs.op, hs.ac, hs.ga, hs.it, hs.lf, hs.rt, hs.pk, hs.pv⟩, by kernel_rfl, fun v v' hv h2 hz hc => ?_⟩, hb⟩
  have h3 := h2.below hv
  exact ⟨h3.op, h3.co, h3.ac, h3.ga, h3.it, h3.lf, h3.rt, h3.pk, h3.pv, h3.id, h3.kd, h3.tx, h3.tl, by simp [maxLen, ByteArray.size], h3.tm⟩

theorem cleared2_4 (q : QIn) (w : World) (h : q.ok w) (hs : q.short) :
    Calls Try.prog 37 #[.agg q.cells, .int .i64 4] w fun e w' => Turned2 q w (q.flags.set 4 false) e w' ∧ Below w.heap.size w w' := by
  refine (clr4 q.cells (QIn.cells { q with ac := ⟨none, 0, 0⟩ }) w rfl _ rfl (by kernel_rfl) (QIn.all1 _)).mono ?_
  rintro e w' ⟨rfl, hb⟩
  refine ⟨⟨{ q with ac := ⟨none, 0, 0⟩ }, rfl, ⟨(h.below hb).op, (h.below hb).co, StrsAt.none' _ _, (h.below hb).ga, (h.below hb).it, (h.below hb).lf, (h.below hb).rt, (h.below hb).pk, (h.below hb).pv, (h.below hb).id, (h.below hb).kd, (h.below hb).tx, (h.below hb).tl, (h.below hb).al, (h.below hb).tm⟩, ⟨hs.op, Nat.zero_le _, hs.ga, hs.it, hs.lf, hs.rt, hs.pk, hs.pv⟩, by kernel_rfl, fun v v' hv h2 hz hc => ?_⟩, hb⟩
  have h3 := h2.below hv
  exact ⟨h3.op, h3.co, StrsAt.none' _ _, h3.ga, h3.it, h3.lf, h3.rt, h3.pk, h3.pv, h3.id, h3.kd, h3.tx, h3.tl, h3.al, h3.tm⟩

theorem cleared2_5 (q : QIn) (w : World) (h : q.ok w) (hs : q.short) :
    Calls Try.prog 37 #[.agg q.cells, .int .i64 5] w fun e w' => Turned2 q w (q.flags.set 5 false) e w' ∧ Below w.heap.size w w' := by
  refine (clr5 q.cells (QIn.cells { q with ga := ⟨none, 0, 0⟩ }) w rfl _ rfl (by kernel_rfl) (QIn.all1 _)).mono ?_
  rintro e w' ⟨rfl, hb⟩
  refine ⟨⟨{ q with ga := ⟨none, 0, 0⟩ }, rfl, ⟨(h.below hb).op, (h.below hb).co, (h.below hb).ac, GapsAt.none' _ _, (h.below hb).it, (h.below hb).lf, (h.below hb).rt, (h.below hb).pk, (h.below hb).pv, (h.below hb).id, (h.below hb).kd, (h.below hb).tx, (h.below hb).tl, (h.below hb).al, (h.below hb).tm⟩, ⟨hs.op, hs.ac, Nat.zero_le _, hs.it, hs.lf, hs.rt, hs.pk, hs.pv⟩, by kernel_rfl, fun v v' hv h2 hz hc => ?_⟩, hb⟩
  have h3 := h2.below hv
  exact ⟨h3.op, h3.co, h3.ac, GapsAt.none' _ _, h3.it, h3.lf, h3.rt, h3.pk, h3.pv, h3.id, h3.kd, h3.tx, h3.tl, h3.al, h3.tm⟩

theorem cleared2_6 (q : QIn) (w : World) (h : q.ok w) (hs : q.short) :
    Calls Try.prog 37 #[.agg q.cells, .int .i64 6] w fun e w' => Turned2 q w (q.flags.set 6 false) e w' ∧ Below w.heap.size w w' := by
  refine (clr6 q.cells (QIn.cells { q with it := ⟨none, 0, 0⟩ }) w rfl _ rfl (by kernel_rfl) (QIn.all1 _)).mono ?_
  rintro e w' ⟨rfl, hb⟩
  refine ⟨⟨{ q with it := ⟨none, 0, 0⟩ }, rfl, ⟨(h.below hb).op, (h.below hb).co, (h.below hb).ac, (h.below hb).ga, ItsAt.none' _ _, (h.below hb).lf, (h.below hb).rt, (h.below hb).pk, (h.below hb).pv, (h.below hb).id, (h.below hb).kd, (h.below hb).tx, (h.below hb).tl, (h.below hb).al, (h.below hb).tm⟩, ⟨hs.op, hs.ac, hs.ga, Nat.zero_le _, hs.lf, hs.rt, hs.pk, hs.pv⟩, by kernel_rfl, fun v v' hv h2 hz hc => ?_⟩, hb⟩
  have h3 := h2.below hv
  exact ⟨h3.op, h3.co, h3.ac, h3.ga, ItsAt.none' _ _, h3.lf, h3.rt, h3.pk, h3.pv, h3.id, h3.kd, h3.tx, h3.tl, h3.al, h3.tm⟩

theorem cleared2_7 (q : QIn) (w : World) (h : q.ok w) (hs : q.short) :
    Calls Try.prog 37 #[.agg q.cells, .int .i64 7] w fun e w' => Turned2 q w (q.flags.set 7 false) e w' ∧ Below w.heap.size w w' := by
  refine (clr7 q.cells (QIn.cells { q with lf := ⟨none, 0, 0⟩ }) w rfl _ rfl (by kernel_rfl) (QIn.all1 _)).mono ?_
  rintro e w' ⟨rfl, hb⟩
  refine ⟨⟨{ q with lf := ⟨none, 0, 0⟩ }, rfl, ⟨(h.below hb).op, (h.below hb).co, (h.below hb).ac, (h.below hb).ga, (h.below hb).it, ItsAt.none' _ _, (h.below hb).rt, (h.below hb).pk, (h.below hb).pv, (h.below hb).id, (h.below hb).kd, (h.below hb).tx, (h.below hb).tl, (h.below hb).al, (h.below hb).tm⟩, ⟨hs.op, hs.ac, hs.ga, hs.it, Nat.zero_le _, hs.rt, hs.pk, hs.pv⟩, by kernel_rfl, fun v v' hv h2 hz hc => ?_⟩, hb⟩
  have h3 := h2.below hv
  exact ⟨h3.op, h3.co, h3.ac, h3.ga, h3.it, ItsAt.none' _ _, h3.rt, h3.pk, h3.pv, h3.id, h3.kd, h3.tx, h3.tl, h3.al, h3.tm⟩

theorem cleared2_8 (q : QIn) (w : World) (h : q.ok w) (hs : q.short) :
    Calls Try.prog 37 #[.agg q.cells, .int .i64 8] w fun e w' => Turned2 q w (q.flags.set 8 false) e w' ∧ Below w.heap.size w w' := by
  refine (clr8 q.cells (QIn.cells { q with rt := ⟨none, 0, 0⟩ }) w rfl _ rfl (by kernel_rfl) (QIn.all1 _)).mono ?_
  rintro e w' ⟨rfl, hb⟩
  refine ⟨⟨{ q with rt := ⟨none, 0, 0⟩ }, rfl, ⟨(h.below hb).op, (h.below hb).co, (h.below hb).ac, (h.below hb).ga, (h.below hb).it, (h.below hb).lf, ItsAt.none' _ _, (h.below hb).pk, (h.below hb).pv, (h.below hb).id, (h.below hb).kd, (h.below hb).tx, (h.below hb).tl, (h.below hb).al, (h.below hb).tm⟩, ⟨hs.op, hs.ac, hs.ga, hs.it, hs.lf, Nat.zero_le _, hs.pk, hs.pv⟩, by kernel_rfl, fun v v' hv h2 hz hc => ?_⟩, hb⟩
  have h3 := h2.below hv
  exact ⟨h3.op, h3.co, h3.ac, h3.ga, h3.it, h3.lf, ItsAt.none' _ _, h3.pk, h3.pv, h3.id, h3.kd, h3.tx, h3.tl, h3.al, h3.tm⟩

theorem cleared2_9 (q : QIn) (w : World) (h : q.ok w) (hs : q.short) :
    Calls Try.prog 37 #[.agg q.cells, .int .i64 9] w fun e w' => Turned2 q w (q.flags.set 9 false) e w' ∧ Below w.heap.size w w' := by
  refine (clr9 q.cells (QIn.cells { q with pk := ⟨none, 0, 0⟩ }) w rfl _ rfl (by kernel_rfl) (QIn.all1 _)).mono ?_
  rintro e w' ⟨rfl, hb⟩
  refine ⟨⟨{ q with pk := ⟨none, 0, 0⟩ }, rfl, ⟨(h.below hb).op, (h.below hb).co, (h.below hb).ac, (h.below hb).ga, (h.below hb).it, (h.below hb).lf, (h.below hb).rt, StrsAt.none' _ _, (h.below hb).pv, (h.below hb).id, (h.below hb).kd, (h.below hb).tx, (h.below hb).tl, (h.below hb).al, (h.below hb).tm⟩, ⟨hs.op, hs.ac, hs.ga, hs.it, hs.lf, hs.rt, Nat.zero_le _, hs.pv⟩, by kernel_rfl, fun v v' hv h2 hz hc => ?_⟩, hb⟩
  have h3 := h2.below hv
  exact ⟨h3.op, h3.co, h3.ac, h3.ga, h3.it, h3.lf, h3.rt, StrsAt.none' _ _, h3.pv, h3.id, h3.kd, h3.tx, h3.tl, h3.al, h3.tm⟩

theorem cleared2_10 (q : QIn) (w : World) (h : q.ok w) (hs : q.short) :
    Calls Try.prog 37 #[.agg q.cells, .int .i64 10] w fun e w' => Turned2 q w (q.flags.set 10 false) e w' ∧ Below w.heap.size w w' := by
  refine (clr10 q.cells (QIn.cells { q with po := none }) w rfl _ rfl (by kernel_rfl) (QIn.all1 _)).mono ?_
  rintro e w' ⟨rfl, hb⟩
  refine ⟨⟨{ q with po := none }, rfl, ⟨(h.below hb).op, (h.below hb).co, (h.below hb).ac, (h.below hb).ga, (h.below hb).it, (h.below hb).lf, (h.below hb).rt, (h.below hb).pk, (h.below hb).pv, (h.below hb).id, (h.below hb).kd, (h.below hb).tx, (h.below hb).tl, (h.below hb).al, (h.below hb).tm⟩, ⟨hs.op, hs.ac, hs.ga, hs.it, hs.lf, hs.rt, hs.pk, hs.pv⟩, by kernel_rfl, fun v v' hv h2 hz hc => ?_⟩, hb⟩
  have h3 := h2.below hv
  exact ⟨h3.op, h3.co, h3.ac, h3.ga, h3.it, h3.lf, h3.rt, h3.pk, h3.pv, h3.id, h3.kd, h3.tx, h3.tl, h3.al, h3.tm⟩

theorem cleared2_11 (q : QIn) (w : World) (h : q.ok w) (hs : q.short) :
    Calls Try.prog 37 #[.agg q.cells, .int .i64 11] w fun e w' => Turned2 q w (q.flags.set 11 false) e w' ∧ Below w.heap.size w w' := by
  refine (clr11 q.cells (QIn.cells { q with tm := ⟨#[]⟩ }) w rfl _ rfl (by kernel_rfl) (QIn.all1 _)).mono ?_
  rintro e w' ⟨rfl, hb⟩
  refine ⟨⟨{ q with tm := ⟨#[]⟩ }, rfl, ⟨(h.below hb).op, (h.below hb).co, (h.below hb).ac, (h.below hb).ga, (h.below hb).it, (h.below hb).lf, (h.below hb).rt, (h.below hb).pk, (h.below hb).pv, (h.below hb).id, (h.below hb).kd, (h.below hb).tx, (h.below hb).tl, (h.below hb).al, by simp [maxLen, ByteArray.size]⟩, ⟨hs.op, hs.ac, hs.ga, hs.it, hs.lf, hs.rt, hs.pk, hs.pv⟩, by kernel_rfl, fun v v' hv h2 hz hc => ?_⟩, hb⟩
  have h3 := h2.below hv
  exact ⟨h3.op, h3.co, h3.ac, h3.ga, h3.it, h3.lf, h3.rt, h3.pk, h3.pv, h3.id, h3.kd, h3.tx, h3.tl, h3.al, by simp [maxLen, ByteArray.size]⟩

theorem cleared2_12 (q : QIn) (w : World) (h : q.ok w) (hs : q.short) :
    Calls Try.prog 37 #[.agg q.cells, .int .i64 12] w fun e w' => Turned2 q w (q.flags.set 12 false) e w' ∧ Below w.heap.size w w' := by
  refine (clr12 q.cells (QIn.cells { q with ex := false }) w rfl _ rfl (by kernel_rfl) (QIn.all1 _)).mono ?_
  rintro e w' ⟨rfl, hb⟩
  refine ⟨⟨{ q with ex := false }, rfl, ⟨(h.below hb).op, (h.below hb).co, (h.below hb).ac, (h.below hb).ga, (h.below hb).it, (h.below hb).lf, (h.below hb).rt, (h.below hb).pk, (h.below hb).pv, (h.below hb).id, (h.below hb).kd, (h.below hb).tx, (h.below hb).tl, (h.below hb).al, (h.below hb).tm⟩, ⟨hs.op, hs.ac, hs.ga, hs.it, hs.lf, hs.rt, hs.pk, hs.pv⟩, by kernel_rfl, fun v v' hv h2 hz hc => ?_⟩, hb⟩
  have h3 := h2.below hv
  exact ⟨h3.op, h3.co, h3.ac, h3.ga, h3.it, h3.lf, h3.rt, h3.pk, h3.pv, h3.id, h3.kd, h3.tx, h3.tl, h3.al, h3.tm⟩

theorem cleared2_any (q : QIn) (i : Nat) (hi : i < 13) (w : World) (h : q.ok w) (hs : q.short) :
    Calls Try.prog 37 #[.agg q.cells, .int .i64 i] w fun e w' => Turned2 q w (q.flags.set i false) e w' ∧ Below w.heap.size w w' := by
  match i, hi with
  | 0, _ => exact cleared2_0 q w h hs
  | 1, _ => exact cleared2_1 q w h hs
  | 2, _ => exact cleared2_2 q w h hs
  | 3, _ => exact cleared2_3 q w h hs
  | 4, _ => exact cleared2_4 q w h hs
  | 5, _ => exact cleared2_5 q w h hs
  | 6, _ => exact cleared2_6 q w h hs
  | 7, _ => exact cleared2_7 q w h hs
  | 8, _ => exact cleared2_8 q w h hs
  | 9, _ => exact cleared2_9 q w h hs
  | 10, _ => exact cleared2_10 q w h hs
  | 11, _ => exact cleared2_11 q w h hs
  | 12, _ => exact cleared2_12 q w h hs

theorem setOne2_0 (q : QIn) (w : World) (h : q.ok w) (hs : q.short) :
    Calls Try.prog 38 #[.agg q.cells, .int .i64 0] w fun e w' => Turned2 q w (q.flags.set 0 true) e w' ∧ Below w.heap.size w w' := by
  refine (one0 q.cells (QIn.cells { q with op := ⟨some ⟨w.heap.size + 1 + 1, 0, none⟩, 0, 0⟩ }) w rfl _ rfl (by kernel_rfl) (QIn.all1 _)).mono ?_
  rintro e w' ⟨rfl, hb⟩
  refine ⟨⟨{ q with op := ⟨some ⟨w.heap.size + 1 + 1, 0, none⟩, 0, 0⟩ }, rfl, ⟨OptsAt.none' _ _, (h.below hb).co, (h.below hb).ac, (h.below hb).ga, (h.below hb).it, (h.below hb).lf, (h.below hb).rt, (h.below hb).pk, (h.below hb).pv, (h.below hb).id, (h.below hb).kd, (h.below hb).tx, (h.below hb).tl, (h.below hb).al, (h.below hb).tm⟩, ⟨Nat.zero_le _, hs.ac, hs.ga, hs.it, hs.lf, hs.rt, hs.pk, hs.pv⟩, by kernel_rfl, fun v v' hv h2 hz hc => ?_⟩, hb⟩
  have h3 := h2.below hv
  exact ⟨OptsAt.none' _ _, h3.co, h3.ac, h3.ga, h3.it, h3.lf, h3.rt, h3.pk, h3.pv, h3.id, h3.kd, h3.tx, h3.tl, h3.al, h3.tm⟩

theorem setOne2_1 (q : QIn) (w : World) (h : q.ok w) (hs : q.short) :
    Calls Try.prog 38 #[.agg q.cells, .int .i64 1] w fun e w' => Turned2 q w (q.flags.set 1 true) e w' ∧ Below w.heap.size w w' := by
  refine (one1 q.cells (QIn.cells { q with co := ⟨some ⟨w.heap.size + 1 + 1, 0, none⟩, 1, 1⟩, cb := [49] }) w rfl _ rfl (by kernel_rfl) (QIn.all1 _)).mono ?_
  rintro e w' ⟨rfl, hb, hco⟩
  refine ⟨⟨{ q with co := ⟨some ⟨w.heap.size + 1 + 1, 0, none⟩, 1, 1⟩, cb := [49] }, rfl, ⟨(h.below hb).op, hco, (h.below hb).ac, (h.below hb).ga, (h.below hb).it, (h.below hb).lf, (h.below hb).rt, (h.below hb).pk, (h.below hb).pv, (h.below hb).id, (h.below hb).kd, (h.below hb).tx, (h.below hb).tl, (h.below hb).al, (h.below hb).tm⟩, ⟨hs.op, hs.ac, hs.ga, hs.it, hs.lf, hs.rt, hs.pk, hs.pv⟩, by kernel_rfl, fun v v' hv h2 hz hc => ?_⟩, hb⟩
  have h3 := h2.below hv
  exact ⟨h3.op, (bytes_move hco hz (fun o => hc _ o (by omega))), h3.ac, h3.ga, h3.it, h3.lf, h3.rt, h3.pk, h3.pv, h3.id, h3.kd, h3.tx, h3.tl, h3.al, h3.tm⟩

theorem setOne2_2 (q : QIn) (w : World) (h : q.ok w) (hs : q.short) :
    Calls Try.prog 38 #[.agg q.cells, .int .i64 2] w fun e w' => Turned2 q w (q.flags.set 2 true) e w' ∧ Below w.heap.size w w' := by
  refine (one2 q.cells (QIn.cells { q with tl := ⟨#[49]⟩ }) w rfl _ rfl (by kernel_rfl) (QIn.all1 _)).mono ?_
  rintro e w' ⟨rfl, hb⟩
  refine ⟨⟨{ q with tl := ⟨#[49]⟩ }, rfl, ⟨(h.below hb).op, (h.below hb).co, (h.below hb).ac, (h.below hb).ga, (h.below hb).it, (h.below hb).lf, (h.below hb).rt, (h.below hb).pk, (h.below hb).pv, (h.below hb).id, (h.below hb).kd, (h.below hb).tx, by simp [maxLen, ByteArray.size], (h.below hb).al, (h.below hb).tm⟩, ⟨hs.op, hs.ac, hs.ga, hs.it, hs.lf, hs.rt, hs.pk, hs.pv⟩, by kernel_rfl, fun v v' hv h2 hz hc => ?_⟩, hb⟩
  have h3 := h2.below hv
  exact ⟨h3.op, h3.co, h3.ac, h3.ga, h3.it, h3.lf, h3.rt, h3.pk, h3.pv, h3.id, h3.kd, h3.tx, by simp [maxLen, ByteArray.size], h3.al, h3.tm⟩

theorem setOne2_3 (q : QIn) (w : World) (h : q.ok w) (hs : q.short) :
    Calls Try.prog 38 #[.agg q.cells, .int .i64 3] w fun e w' => Turned2 q w (q.flags.set 3 true) e w' ∧ Below w.heap.size w w' := by
  refine (one3 q.cells (QIn.cells { q with al := ⟨#[49]⟩ }) w rfl _ rfl (by kernel_rfl) (QIn.all1 _)).mono ?_
  rintro e w' ⟨rfl, hb⟩
  refine ⟨⟨{ q with al := ⟨#[49]⟩ }, rfl, ⟨(h.below hb).op, (h.below hb).co, (h.below hb).ac, (h.below hb).ga, (h.below hb).it, (h.below hb).lf, (h.below hb).rt, (h.below hb).pk, (h.below hb).pv, (h.below hb).id, (h.below hb).kd, (h.below hb).tx, (h.below hb).tl, by simp [maxLen, ByteArray.size], (h.below hb).tm⟩, ⟨hs.op, hs.ac, hs.ga, hs.it, hs.lf, hs.rt, hs.pk, hs.pv⟩, by kernel_rfl, fun v v' hv h2 hz hc => ?_⟩, hb⟩
  have h3 := h2.below hv
  exact ⟨h3.op, h3.co, h3.ac, h3.ga, h3.it, h3.lf, h3.rt, h3.pk, h3.pv, h3.id, h3.kd, h3.tx, h3.tl, by simp [maxLen, ByteArray.size], h3.tm⟩

theorem setOne2_4 (q : QIn) (w : World) (h : q.ok w) (hs : q.short) :
    Calls Try.prog 38 #[.agg q.cells, .int .i64 4] w fun e w' => Turned2 q w (q.flags.set 4 true) e w' ∧ Below w.heap.size w w' := by
  refine (one4 q.cells (QIn.cells { q with ac := ⟨some ⟨w.heap.size + 1 + 1, 0, none⟩, 0, 0⟩ }) w rfl _ rfl (by kernel_rfl) (QIn.all1 _)).mono ?_
  rintro e w' ⟨rfl, hb⟩
  refine ⟨⟨{ q with ac := ⟨some ⟨w.heap.size + 1 + 1, 0, none⟩, 0, 0⟩ }, rfl, ⟨(h.below hb).op, (h.below hb).co, StrsAt.none' _ _, (h.below hb).ga, (h.below hb).it, (h.below hb).lf, (h.below hb).rt, (h.below hb).pk, (h.below hb).pv, (h.below hb).id, (h.below hb).kd, (h.below hb).tx, (h.below hb).tl, (h.below hb).al, (h.below hb).tm⟩, ⟨hs.op, Nat.zero_le _, hs.ga, hs.it, hs.lf, hs.rt, hs.pk, hs.pv⟩, by kernel_rfl, fun v v' hv h2 hz hc => ?_⟩, hb⟩
  have h3 := h2.below hv
  exact ⟨h3.op, h3.co, StrsAt.none' _ _, h3.ga, h3.it, h3.lf, h3.rt, h3.pk, h3.pv, h3.id, h3.kd, h3.tx, h3.tl, h3.al, h3.tm⟩

theorem setOne2_5 (q : QIn) (w : World) (h : q.ok w) (hs : q.short) :
    Calls Try.prog 38 #[.agg q.cells, .int .i64 5] w fun e w' => Turned2 q w (q.flags.set 5 true) e w' ∧ Below w.heap.size w w' := by
  refine (one5 q.cells (QIn.cells { q with ga := ⟨some ⟨w.heap.size + 1 + 1, 0, none⟩, 0, 0⟩ }) w rfl _ rfl (by kernel_rfl) (QIn.all1 _)).mono ?_
  rintro e w' ⟨rfl, hb⟩
  refine ⟨⟨{ q with ga := ⟨some ⟨w.heap.size + 1 + 1, 0, none⟩, 0, 0⟩ }, rfl, ⟨(h.below hb).op, (h.below hb).co, (h.below hb).ac, GapsAt.none' _ _, (h.below hb).it, (h.below hb).lf, (h.below hb).rt, (h.below hb).pk, (h.below hb).pv, (h.below hb).id, (h.below hb).kd, (h.below hb).tx, (h.below hb).tl, (h.below hb).al, (h.below hb).tm⟩, ⟨hs.op, hs.ac, Nat.zero_le _, hs.it, hs.lf, hs.rt, hs.pk, hs.pv⟩, by kernel_rfl, fun v v' hv h2 hz hc => ?_⟩, hb⟩
  have h3 := h2.below hv
  exact ⟨h3.op, h3.co, h3.ac, GapsAt.none' _ _, h3.it, h3.lf, h3.rt, h3.pk, h3.pv, h3.id, h3.kd, h3.tx, h3.tl, h3.al, h3.tm⟩

theorem setOne2_6 (q : QIn) (w : World) (h : q.ok w) (hs : q.short) :
    Calls Try.prog 38 #[.agg q.cells, .int .i64 6] w fun e w' => Turned2 q w (q.flags.set 6 true) e w' ∧ Below w.heap.size w w' := by
  refine (one6 q.cells (QIn.cells { q with it := ⟨some ⟨w.heap.size + 1 + 1, 0, none⟩, 0, 0⟩ }) w rfl _ rfl (by kernel_rfl) (QIn.all1 _)).mono ?_
  rintro e w' ⟨rfl, hb⟩
  refine ⟨⟨{ q with it := ⟨some ⟨w.heap.size + 1 + 1, 0, none⟩, 0, 0⟩ }, rfl, ⟨(h.below hb).op, (h.below hb).co, (h.below hb).ac, (h.below hb).ga, ItsAt.none' _ _, (h.below hb).lf, (h.below hb).rt, (h.below hb).pk, (h.below hb).pv, (h.below hb).id, (h.below hb).kd, (h.below hb).tx, (h.below hb).tl, (h.below hb).al, (h.below hb).tm⟩, ⟨hs.op, hs.ac, hs.ga, Nat.zero_le _, hs.lf, hs.rt, hs.pk, hs.pv⟩, by kernel_rfl, fun v v' hv h2 hz hc => ?_⟩, hb⟩
  have h3 := h2.below hv
  exact ⟨h3.op, h3.co, h3.ac, h3.ga, ItsAt.none' _ _, h3.lf, h3.rt, h3.pk, h3.pv, h3.id, h3.kd, h3.tx, h3.tl, h3.al, h3.tm⟩

theorem setOne2_7 (q : QIn) (w : World) (h : q.ok w) (hs : q.short) :
    Calls Try.prog 38 #[.agg q.cells, .int .i64 7] w fun e w' => Turned2 q w (q.flags.set 7 true) e w' ∧ Below w.heap.size w w' := by
  refine (one7 q.cells (QIn.cells { q with lf := ⟨some ⟨w.heap.size + 1 + 1, 0, none⟩, 0, 0⟩ }) w rfl _ rfl (by kernel_rfl) (QIn.all1 _)).mono ?_
  rintro e w' ⟨rfl, hb⟩
  refine ⟨⟨{ q with lf := ⟨some ⟨w.heap.size + 1 + 1, 0, none⟩, 0, 0⟩ }, rfl, ⟨(h.below hb).op, (h.below hb).co, (h.below hb).ac, (h.below hb).ga, (h.below hb).it, ItsAt.none' _ _, (h.below hb).rt, (h.below hb).pk, (h.below hb).pv, (h.below hb).id, (h.below hb).kd, (h.below hb).tx, (h.below hb).tl, (h.below hb).al, (h.below hb).tm⟩, ⟨hs.op, hs.ac, hs.ga, hs.it, Nat.zero_le _, hs.rt, hs.pk, hs.pv⟩, by kernel_rfl, fun v v' hv h2 hz hc => ?_⟩, hb⟩
  have h3 := h2.below hv
  exact ⟨h3.op, h3.co, h3.ac, h3.ga, h3.it, ItsAt.none' _ _, h3.rt, h3.pk, h3.pv, h3.id, h3.kd, h3.tx, h3.tl, h3.al, h3.tm⟩

theorem setOne2_8 (q : QIn) (w : World) (h : q.ok w) (hs : q.short) :
    Calls Try.prog 38 #[.agg q.cells, .int .i64 8] w fun e w' => Turned2 q w (q.flags.set 8 true) e w' ∧ Below w.heap.size w w' := by
  refine (one8 q.cells (QIn.cells { q with rt := ⟨some ⟨w.heap.size + 1 + 1, 0, none⟩, 0, 0⟩ }) w rfl _ rfl (by kernel_rfl) (QIn.all1 _)).mono ?_
  rintro e w' ⟨rfl, hb⟩
  refine ⟨⟨{ q with rt := ⟨some ⟨w.heap.size + 1 + 1, 0, none⟩, 0, 0⟩ }, rfl, ⟨(h.below hb).op, (h.below hb).co, (h.below hb).ac, (h.below hb).ga, (h.below hb).it, (h.below hb).lf, ItsAt.none' _ _, (h.below hb).pk, (h.below hb).pv, (h.below hb).id, (h.below hb).kd, (h.below hb).tx, (h.below hb).tl, (h.below hb).al, (h.below hb).tm⟩, ⟨hs.op, hs.ac, hs.ga, hs.it, hs.lf, Nat.zero_le _, hs.pk, hs.pv⟩, by kernel_rfl, fun v v' hv h2 hz hc => ?_⟩, hb⟩
  have h3 := h2.below hv
  exact ⟨h3.op, h3.co, h3.ac, h3.ga, h3.it, h3.lf, ItsAt.none' _ _, h3.pk, h3.pv, h3.id, h3.kd, h3.tx, h3.tl, h3.al, h3.tm⟩

theorem setOne2_9 (q : QIn) (w : World) (h : q.ok w) (hs : q.short) :
    Calls Try.prog 38 #[.agg q.cells, .int .i64 9] w fun e w' => Turned2 q w (q.flags.set 9 true) e w' ∧ Below w.heap.size w w' := by
  refine (one9 q.cells (QIn.cells { q with pk := ⟨some ⟨w.heap.size + 1 + 1, 0, none⟩, 0, 0⟩ }) w rfl _ rfl (by kernel_rfl) (QIn.all1 _)).mono ?_
  rintro e w' ⟨rfl, hb⟩
  refine ⟨⟨{ q with pk := ⟨some ⟨w.heap.size + 1 + 1, 0, none⟩, 0, 0⟩ }, rfl, ⟨(h.below hb).op, (h.below hb).co, (h.below hb).ac, (h.below hb).ga, (h.below hb).it, (h.below hb).lf, (h.below hb).rt, StrsAt.none' _ _, (h.below hb).pv, (h.below hb).id, (h.below hb).kd, (h.below hb).tx, (h.below hb).tl, (h.below hb).al, (h.below hb).tm⟩, ⟨hs.op, hs.ac, hs.ga, hs.it, hs.lf, hs.rt, Nat.zero_le _, hs.pv⟩, by kernel_rfl, fun v v' hv h2 hz hc => ?_⟩, hb⟩
  have h3 := h2.below hv
  exact ⟨h3.op, h3.co, h3.ac, h3.ga, h3.it, h3.lf, h3.rt, StrsAt.none' _ _, h3.pv, h3.id, h3.kd, h3.tx, h3.tl, h3.al, h3.tm⟩

theorem setOne2_10 (q : QIn) (w : World) (h : q.ok w) (hs : q.short) :
    Calls Try.prog 38 #[.agg q.cells, .int .i64 10] w fun e w' => Turned2 q w (q.flags.set 10 true) e w' ∧ Below w.heap.size w w' := by
  refine (one10 q.cells (QIn.cells { q with po := some ⟨w.heap.size + 1 + 1, 0, none⟩ }) w rfl _ rfl (by kernel_rfl) (QIn.all1 _)).mono ?_
  rintro e w' ⟨rfl, hb⟩
  refine ⟨⟨{ q with po := some ⟨w.heap.size + 1 + 1, 0, none⟩ }, rfl, ⟨(h.below hb).op, (h.below hb).co, (h.below hb).ac, (h.below hb).ga, (h.below hb).it, (h.below hb).lf, (h.below hb).rt, (h.below hb).pk, (h.below hb).pv, (h.below hb).id, (h.below hb).kd, (h.below hb).tx, (h.below hb).tl, (h.below hb).al, (h.below hb).tm⟩, ⟨hs.op, hs.ac, hs.ga, hs.it, hs.lf, hs.rt, hs.pk, hs.pv⟩, by kernel_rfl, fun v v' hv h2 hz hc => ?_⟩, hb⟩
  have h3 := h2.below hv
  exact ⟨h3.op, h3.co, h3.ac, h3.ga, h3.it, h3.lf, h3.rt, h3.pk, h3.pv, h3.id, h3.kd, h3.tx, h3.tl, h3.al, h3.tm⟩

theorem setOne2_11 (q : QIn) (w : World) (h : q.ok w) (hs : q.short) :
    Calls Try.prog 38 #[.agg q.cells, .int .i64 11] w fun e w' => Turned2 q w (q.flags.set 11 true) e w' ∧ Below w.heap.size w w' := by
  refine (one11 q.cells (QIn.cells { q with tm := ⟨#[49]⟩ }) w rfl _ rfl (by kernel_rfl) (QIn.all1 _)).mono ?_
  rintro e w' ⟨rfl, hb⟩
  refine ⟨⟨{ q with tm := ⟨#[49]⟩ }, rfl, ⟨(h.below hb).op, (h.below hb).co, (h.below hb).ac, (h.below hb).ga, (h.below hb).it, (h.below hb).lf, (h.below hb).rt, (h.below hb).pk, (h.below hb).pv, (h.below hb).id, (h.below hb).kd, (h.below hb).tx, (h.below hb).tl, (h.below hb).al, by simp [maxLen, ByteArray.size]⟩, ⟨hs.op, hs.ac, hs.ga, hs.it, hs.lf, hs.rt, hs.pk, hs.pv⟩, by kernel_rfl, fun v v' hv h2 hz hc => ?_⟩, hb⟩
  have h3 := h2.below hv
  exact ⟨h3.op, h3.co, h3.ac, h3.ga, h3.it, h3.lf, h3.rt, h3.pk, h3.pv, h3.id, h3.kd, h3.tx, h3.tl, h3.al, by simp [maxLen, ByteArray.size]⟩

theorem setOne2_12 (q : QIn) (w : World) (h : q.ok w) (hs : q.short) :
    Calls Try.prog 38 #[.agg q.cells, .int .i64 12] w fun e w' => Turned2 q w (q.flags.set 12 true) e w' ∧ Below w.heap.size w w' := by
  refine (one12 q.cells (QIn.cells { q with ex := true }) w rfl _ rfl (by kernel_rfl) (QIn.all1 _)).mono ?_
  rintro e w' ⟨rfl, hb⟩
  refine ⟨⟨{ q with ex := true }, rfl, ⟨(h.below hb).op, (h.below hb).co, (h.below hb).ac, (h.below hb).ga, (h.below hb).it, (h.below hb).lf, (h.below hb).rt, (h.below hb).pk, (h.below hb).pv, (h.below hb).id, (h.below hb).kd, (h.below hb).tx, (h.below hb).tl, (h.below hb).al, (h.below hb).tm⟩, ⟨hs.op, hs.ac, hs.ga, hs.it, hs.lf, hs.rt, hs.pk, hs.pv⟩, by kernel_rfl, fun v v' hv h2 hz hc => ?_⟩, hb⟩
  have h3 := h2.below hv
  exact ⟨h3.op, h3.co, h3.ac, h3.ga, h3.it, h3.lf, h3.rt, h3.pk, h3.pv, h3.id, h3.kd, h3.tx, h3.tl, h3.al, h3.tm⟩

theorem setOne2_any (q : QIn) (i : Nat) (hi : i < 13) (w : World) (h : q.ok w) (hs : q.short) :
    Calls Try.prog 38 #[.agg q.cells, .int .i64 i] w fun e w' => Turned2 q w (q.flags.set i true) e w' ∧ Below w.heap.size w w' := by
  match i, hi with
  | 0, _ => exact setOne2_0 q w h hs
  | 1, _ => exact setOne2_1 q w h hs
  | 2, _ => exact setOne2_2 q w h hs
  | 3, _ => exact setOne2_3 q w h hs
  | 4, _ => exact setOne2_4 q w h hs
  | 5, _ => exact setOne2_5 q w h hs
  | 6, _ => exact setOne2_6 q w h hs
  | 7, _ => exact setOne2_7 q w h hs
  | 8, _ => exact setOne2_8 q w h hs
  | 9, _ => exact setOne2_9 q w h hs
  | 10, _ => exact setOne2_10 q w h hs
  | 11, _ => exact setOne2_11 q w h hs
  | 12, _ => exact setOne2_12 q w h hs

end Go.Proofs.Qxb6604414a

