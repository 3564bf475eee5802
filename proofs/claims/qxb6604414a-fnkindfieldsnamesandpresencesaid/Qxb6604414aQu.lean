/-
  'zzJB1Question'.
-/
import Derived.Test.Qxb6604414aIt
import Derived.Test.Qxb6604414aQBytes
import Derived.Deep.DeepCutAuto
import Derived.Maps.Own
import Derived.StringKeys
namespace Go.Proofs.Qxb6604414a
open Go.RowKit Go.Maps Go.WideMaps

set_option linter.unusedSimpArgs false

/-- a question's cells -/
def QC (id kd tx : ByteArray) (op co : Sl) (tl al : ByteArray) (ac ga it lf rt : Sl) (mp : Option Nat) (po : Option Addr) (tm : ByteArray) (ex : Bool) : Array Value :=
  #[.string id, .string kd, .string tx, .slice op.a op.len op.cap, .slice co.a co.len co.cap, .string tl, .string al, .slice ac.a ac.len ac.cap, .slice ga.a ga.len ga.cap, .slice it.a it.len it.cap, .slice lf.a lf.len lf.cap,
    .slice rt.a rt.len rt.cap, .map mp, .pointer po, .string tm, .bool ex]

/-- an input's cells -/
def IC (id kd tx : ByteArray) (op co : Sl) (tl al : ByteArray) (ac ga it lf rt pk pv : Sl) (po : Option Addr) (tm : ByteArray) (ex : Bool) : Array Value :=
  #[.string id, .string kd, .string tx, .slice op.a op.len op.cap, .slice co.a co.len co.cap, .string tl, .string al, .slice ac.a ac.len ac.cap, .slice ga.a ga.len ga.cap, .slice it.a it.len it.cap, .slice lf.a lf.len lf.cap,
    .slice rt.a rt.len rt.cap, .slice pk.a pk.len pk.cap, .slice pv.a pv.len pv.cap, .pointer po, .string tm, .bool ex]

/-- an empty string, a nil slice -/
def noS : ByteArray := ⟨#[]⟩
def noL : Sl := ⟨none, 0, 0⟩

/-- the zero question -/
def zeroQ : Array Value := QC noS noS noS noL noL noS noS noL noL noL noL noL none none noS false

/-- between two statements: the input's box, the result's box, the question's box -/
structure Stage (w wc : World) (i : Array Value) (o : Array Value) : Prop where
  inp : wc.heap[w.heap.size]? = some (.cells i 45 (0, 0))
  res : wc.heap[w.heap.size + 1]? = some (.cells zeroQ 56 (0, 0))
  que : wc.heap[w.heap.size + 1 + 1]? = some (.cells o 56 (0, 0))
  bel : Below w.heap.size w wc

theorem Stage.lt {w wc : World} {i o : Array Value} (h : Stage w wc i o) : w.heap.size + 1 + 1 < wc.heap.size := by
  have := h.que
  exact (Array.getElem?_eq_some_iff.1 this).1

theorem Stage.below {w wc w' : World} {i o : Array Value} (h : Stage w wc i o) (hb : Below wc.heap.size wc w') : Stage w w' i o := by
  have hl := h.lt
  have h2 := h.res
  exact ⟨(hb.block _ (by omega)).trans h.inp, (hb.block _ (by omega)).trans h2, (hb.block _ (by omega)).trans h.que, h.bel.trans (hb.mono (by omega))⟩

theorem Stage.set {w wc : World} {i o : Array Value} (h : Stage w wc i o) (j : Nat) (v : Value) : Stage w (wc.setCell ⟨w.heap.size + 1 + 1, j, none⟩ v) i (o.setIfInBounds j v) := by
  have h2 := h.res
  exact ⟨(heap_setCell_other _ _ _ _ (by simp; omega)).trans h.inp, (heap_setCell_other _ _ _ _ (by simp)).trans h2, heap_setCell_same _ _ _ _ _ _ h.que, h.bel.setCell (by simp; omega) _⟩

theorem Stage.cellI {w wc : World} {i o : Array Value} (h : Stage w wc i o) (j : Nat) : wc.cell? ⟨w.heap.size, j, none⟩ = i[j]? := cell_of_row _ _ _ _ _ _ h.inp
theorem Stage.cellR {w wc : World} {i o : Array Value} (h : Stage w wc i o) (j : Nat) : wc.cell? ⟨w.heap.size + 1, j, none⟩ = zeroQ[j]? := cell_of_row _ _ _ _ _ _ h.res
theorem Stage.freeR {w wc : World} {i o : Array Value} (h : Stage w wc i o) (j : Nat) : wc.frozen? ⟨w.heap.size + 1, j, none⟩ = false := frozen_of_row _ _ _ _ _ h.res
theorem Stage.cellQ {w wc : World} {i o : Array Value} (h : Stage w wc i o) (j : Nat) : wc.cell? ⟨w.heap.size + 1 + 1, j, none⟩ = o[j]? := cell_of_row _ _ _ _ _ _ h.que
theorem Stage.freeQ {w wc : World} {i o : Array Value} (h : Stage w wc i o) (j : Nat) : wc.frozen? ⟨w.heap.size + 1 + 1, j, none⟩ = false := frozen_of_row _ _ _ _ _ h.que

theorem Try.info86 : (Try.prog.info? 86).map (fun i => (i.zero, i.size, i.bytes)) = some (some (.agg #[.string ⟨#[]⟩, .string ⟨#[]⟩, .bool false]), 3, 40) := by kernel_rfl

def made51 (n : Nat) : Array Value := madeCells #[.string ⟨#[]⟩, .string ⟨#[]⟩, .bool false] (n * 3)
theorem size_made51 (n : Nat) : (made51 n).size = n * 3 := size_madeCells _ _

theorem mk51 (n : Nat) (hn : n ≤ 65536) (w : World) : (Instr.makeSlice 51 (.int .i64 n) (.int .i64 n)).run Try.prog w = .ok (.slice (some ⟨w.heap.size, 0, none⟩) n n) (w.alloc (.cells (made51 n) 86)) := by
  obtain ⟨i, hi, hz0, hz1, hz2⟩ := info_parts Try.info86
  have := run_make (P := Try.prog) w 51 86 i _ Try.underlying51 hi hz0 .i64 .i64 n n (by omega) (by omega) (by rw [hz2]; omega) (by omega)
  simp only [Int.toNat_natCast, hz1] at this
  exact this

theorem stage0 (w : World) (i o : Array Value) : Stage w (((w.alloc (.cells i 45)).alloc (.cells zeroQ 56)).alloc (.cells o 56)) i o := by
  refine ⟨?_, ?_, ?_, ?_⟩
  · simp only [World.alloc, Array.getElem?_push, Array.size_push]; rw [if_neg (by omega), if_neg (by omega), if_pos trivial]
  · simp only [World.alloc, Array.getElem?_push, Array.size_push]; rw [if_neg (by omega), if_pos trivial]
  · simp only [World.alloc, Array.getElem?_push, Array.size_push]; rw [if_pos trivial]
  · exact (((Below.refl _ _).alloc (Nat.le_refl _) _).alloc (by simp) _).alloc (by simp; omega) _

theorem own4 (w : World) (a b c : Obj) (cs : Array Value) (t : TypeId) : Own ((((w.alloc a).alloc b).alloc c).alloc (.cells cs t)) (w.heap.size + 1 + 1 + 1) cs.size :=
  Own.made (t := t) (by simpa using heap_alloc_new (((w.alloc a).alloc b).alloc c) (.cells cs t))

theorem Stage.other {w wc : World} {i o : Array Value} (h : Stage w wc i o) {a : Addr} (ha : w.heap.size + 1 + 1 < a.block) (v : Value) : Stage w (wc.setCell a v) i o := by
  have h2 := h.res
  exact ⟨(heap_setCell_other _ _ _ _ (by omega)).trans h.inp, (heap_setCell_other _ _ _ _ (by omega)).trans h2, (heap_setCell_other _ _ _ _ (by omega)).trans h.que, h.bel.setCell (by omega) _⟩

theorem Stage.drew {w wc : World} {i o : Array Value} (h : Stage w wc i o) : Stage w wc.drew i o := ⟨h.inp, h.res, h.que, h.bel.drew⟩

theorem Stage.grown {w wc w' : World} {i o : Array Value} {m : Nat} (h : Stage w wc i o) (hg : wc.grownBy w' (some m)) (hm : w.heap.size + 1 + 1 < m) : Stage w w' i o := by
  have hl := h.lt
  have h2 := h.res
  have hb : ∀ k, k < w.heap.size + 1 + 1 + 1 → w'.heap[k]? = wc.heap[k]? := fun k hk => hg.block k (by omega) (fun e => by cases e; omega)
  exact ⟨(hb _ (by omega)).trans h.inp, (hb _ (by omega)).trans h2, (hb _ (by omega)).trans h.que, h.bel.trans ⟨hg.os, hg.tape, hg.output, hg.size, fun k hk => hb k (by omega)⟩⟩

theorem mkMap54 (n : Nat) (w : World) : (Instr.makeMap 54 (some (.int .i64 n))).run Try.prog w = .ok (.map (some w.heap.size)) (w.alloc (.map #[] 0)) := by
  simp [Instr.makeMap, run_underlying Try.underlying54, asInt, asIntOf]

theorem keyed9 : Keyed Try.prog 9 := string_keyed Try.underlying9

/-- the question copied into the result's box -/
def putR (w : World) (r : Nat) (id kd tx : ByteArray) (op co : Sl) (tl al : ByteArray) (ac ga it2 lf2 rt2 : Sl) (mp : Option Nat) (po : Option Addr) (tm : ByteArray) (ex : Bool) : World :=
  ((((((((((((((((w.setCell ⟨r, 0, none⟩ (.string id)).setCell ⟨r, 1, none⟩ (.string kd)).setCell ⟨r, 2, none⟩ (.string tx)).setCell ⟨r, 3, none⟩ (.slice op.a op.len op.cap)).setCell ⟨r, 4, none⟩ (.slice co.a co.len co.cap)).setCell ⟨r, 5, none⟩ (.string tl)).setCell ⟨r, 6, none⟩ (.string al)).setCell ⟨r, 7, none⟩ (.slice ac.a ac.len ac.cap)).setCell ⟨r, 8, none⟩ (.slice ga.a ga.len ga.cap)).setCell ⟨r, 9, none⟩ (.slice it2.a it2.len it2.cap)).setCell ⟨r, 10, none⟩ (.slice lf2.a lf2.len lf2.cap)).setCell ⟨r, 11, none⟩ (.slice rt2.a rt2.len rt2.cap)).setCell ⟨r, 12, none⟩ (.map mp)).setCell ⟨r, 13, none⟩ (.pointer po)).setCell ⟨r, 14, none⟩ (.string tm)).setCell ⟨r, 15, none⟩ (.bool ex))

theorem putR_heap (w : World) (r : Nat) (id kd tx : ByteArray) (op co : Sl) (tl al : ByteArray) (ac ga it2 lf2 rt2 : Sl) (mp : Option Nat) (po : Option Addr) (tm : ByteArray) (ex : Bool) (h : w.heap[r]? = some (.cells zeroQ 56 (0, 0))) :
    (putR w r id kd tx op co tl al ac ga it2 lf2 rt2 mp po tm ex).heap[r]? = some (.cells (QC id kd tx op co tl al ac ga it2 lf2 rt2 mp po tm ex) 56 (0, 0)) := by
  have h0 := heap_setCell_same _ r 0 _ _ (.string id) h
  have h1 := heap_setCell_same _ r 1 _ _ (.string kd) h0
  have h2 := heap_setCell_same _ r 2 _ _ (.string tx) h1
  have h3 := heap_setCell_same _ r 3 _ _ (.slice op.a op.len op.cap) h2
  have h4 := heap_setCell_same _ r 4 _ _ (.slice co.a co.len co.cap) h3
  have h5 := heap_setCell_same _ r 5 _ _ (.string tl) h4
  have h6 := heap_setCell_same _ r 6 _ _ (.string al) h5
  have h7 := heap_setCell_same _ r 7 _ _ (.slice ac.a ac.len ac.cap) h6
  have h8 := heap_setCell_same _ r 8 _ _ (.slice ga.a ga.len ga.cap) h7
  have h9 := heap_setCell_same _ r 9 _ _ (.slice it2.a it2.len it2.cap) h8
  have h10 := heap_setCell_same _ r 10 _ _ (.slice lf2.a lf2.len lf2.cap) h9
  have h11 := heap_setCell_same _ r 11 _ _ (.slice rt2.a rt2.len rt2.cap) h10
  have h12 := heap_setCell_same _ r 12 _ _ (.map mp) h11
  have h13 := heap_setCell_same _ r 13 _ _ (.pointer po) h12
  have h14 := heap_setCell_same _ r 14 _ _ (.string tm) h13
  have h15 := heap_setCell_same _ r 15 _ _ (.bool ex) h14
  exact h15.trans (by kernel_rfl)

theorem putR_below {B : Nat} {w w0 : World} (r : Nat) (id kd tx : ByteArray) (op co : Sl) (tl al : ByteArray) (ac ga it2 lf2 rt2 : Sl) (mp : Option Nat) (po : Option Addr) (tm : ByteArray) (ex : Bool) (h : Below B w0 w) (hr : B ≤ r) :
    Below B w0 (putR w r id kd tx op co tl al ac ga it2 lf2 rt2 mp po tm ex) := by
  have h0 := h.setCell (p := ⟨r, 0, none⟩) hr (.string id)
  have h1 := h0.setCell (p := ⟨r, 1, none⟩) hr (.string kd)
  have h2 := h1.setCell (p := ⟨r, 2, none⟩) hr (.string tx)
  have h3 := h2.setCell (p := ⟨r, 3, none⟩) hr (.slice op.a op.len op.cap)
  have h4 := h3.setCell (p := ⟨r, 4, none⟩) hr (.slice co.a co.len co.cap)
  have h5 := h4.setCell (p := ⟨r, 5, none⟩) hr (.string tl)
  have h6 := h5.setCell (p := ⟨r, 6, none⟩) hr (.string al)
  have h7 := h6.setCell (p := ⟨r, 7, none⟩) hr (.slice ac.a ac.len ac.cap)
  have h8 := h7.setCell (p := ⟨r, 8, none⟩) hr (.slice ga.a ga.len ga.cap)
  have h9 := h8.setCell (p := ⟨r, 9, none⟩) hr (.slice it2.a it2.len it2.cap)
  have h10 := h9.setCell (p := ⟨r, 10, none⟩) hr (.slice lf2.a lf2.len lf2.cap)
  have h11 := h10.setCell (p := ⟨r, 11, none⟩) hr (.slice rt2.a rt2.len rt2.cap)
  have h12 := h11.setCell (p := ⟨r, 12, none⟩) hr (.map mp)
  have h13 := h12.setCell (p := ⟨r, 13, none⟩) hr (.pointer po)
  have h14 := h13.setCell (p := ⟨r, 14, none⟩) hr (.string tm)
  have h15 := h14.setCell (p := ⟨r, 15, none⟩) hr (.bool ex)
  exact h15

/-- the question is a fresh copy: what it hands back -/
def AskedOf (q : QIn) (w' : World) (e : Ending) : Prop := ∃ o : QOut, e = .returned (.agg o.cells) ∧ BytesAt w' o.co o.cb ∧ o.flags = q.flags

set_option maxHeartbeats 1000000 in
set_option maxRecDepth 100000 in
theorem question_any (q : QIn) (w : World) (h : q.ok w) (hs : q.short) :
    Calls Try.prog 30 #[.agg q.cells] w fun e w' => AskedOf q w' e ∧ Below w.heap.size w w' := by
  have n39 := fun (w : World) a n c => run_neq_slice_nil_any (P := Try.prog) w 39 _ a n c 0 0 Try.underlying39
  have n22 := fun (w : World) a n c => run_neq_slice_nil_any (P := Try.prog) w 22 _ a n c 0 0 Try.underlying22
  obtain ⟨id, kd, tx, ⟨oa, ol, oc⟩, co, tl, al, ac, ga, it, lf, rt, ⟨ka, kl, kc⟩, ⟨pa, pl, pc⟩, po, tm, ex, cb⟩ := q
  have o1 := h.op.elem
  have l1 := hs.op
  unfold QIn.cells
  simp only at *
  have O1 : Hid _ := o1
  have H : Hid (QIn.ok _ _) := h
  have HS : Hid (QIn.short _) := hs
  clear o1 h hs
  go_enter Try.func30, Try.ntmps30
  go_upto_if 20 with (fail)
  go_cut [4, 5] (fun _ _ wc => ∃ op : Sl, op.a.isSome = oa.isSome ∧ Stage w wc (IC id kd tx ⟨oa, ol, oc⟩ co tl al ac ga it lf rt ⟨ka, kl, kc⟩ ⟨pa, pl, pc⟩ po tm ex) (QC id kd tx op noL noS noS noL noL noL noL noL none none noS false))
  case first =>
    cases oa with
    | none =>
      go_wp2
      go_meet
      case rel =>
        exact ⟨⟨none, 0, 0⟩, rfl, stage0 _ _ _⟩
    | some oa =>
      have hmk := mk51 ol l1
      go_wp2
      go_loopw [5] (fun i wr => ∃ k : Nat, k ≤ ol ∧ i = .int .i64 k ∧ Own wr (w.heap.size + 1 + 1 + 1) (ol * 3) ∧ Stage w wr (IC id kd tx ⟨some oa, ol, oc⟩ co tl al ac ga it lf rt ⟨ka, kl, kc⟩ ⟨pa, pl, pc⟩ po tm ex) (QC id kd tx noL noL noS noS noL noL noL noL noL none none noS false))
        (fun i _ => ol - (intOf i).toNat)
      case atStart =>
        exact ⟨0, Nat.zero_le _, rfl, size_made51 ol ▸ own4 _ _ _ _ _ _, (stage0 _ _ _).below ((Below.refl _ _).alloc (Nat.le_refl _) _)⟩
      case round =>
        clear hmk n39 n22
        obtain ⟨k, hk, rfl, ho, hst⟩ := hrel
        have cI := hst.cellI
        have cQ := hst.cellQ
        have fQ := hst.freeQ
        simp only [IC] at cI
        simp only [QC, noL, noS] at cQ
        by_cases hlt : k < ol
        · obtain ⟨b, off, e, hbl, hc⟩ := O1.out (by omega)
          cases e
          obtain ⟨x, y, z, hx, hy, hz, _, _⟩ := hc k hlt
          have hx' := (hst.bel.cell (p := ⟨b, off + k * 3, none⟩) hbl).trans hx
          have hy' := (hst.bel.cell (p := ⟨b, off + k * 3 + 1, none⟩) hbl).trans hy
          have hz' := (hst.bel.cell (p := ⟨b, off + k * 3 + 2, none⟩) hbl).trans hz
          obtain ⟨v1, c1⟩ := ho.there (k * 3) (by omega)
          obtain ⟨v2, c2⟩ := ho.there (k * 3 + 1) (by omega)
          obtain ⟨v3, c3⟩ := ho.there (k * 3 + 2) (by omega)
          have f1 := ho.free (k * 3)
          have f2 := ho.free (k * 3 + 1)
          have f3 := ho.free (k * 3 + 2)
          have HO : Hid _ := And.intro ho hst
          clear ho hx hy hz hc O1 hst cQ fQ
          go_wp2
          go_region
          go_wp2
          go_roundw
          case rel => exact ⟨k + 1, by omega, by go_num, (((HO.out.1.setCell _ _).setCell _ _).setCell _ _).drew, (((HO.out.2.other (by simp) _).other (by simp) _).other (by simp) _).drew⟩
          case measure => simp [intOf]; omega
        · have X : Hid _ := hst
          clear hst ho
          go_wp2
          go_meet
          case rel =>
            exact ⟨⟨some ⟨w.heap.size + 1 + 1 + 1, 0, none⟩, ol, ol⟩, rfl, X.out.set 3 _⟩
  case rest =>
    clear n39 O1 l1
    obtain ⟨op, hop, hst⟩ := hcut
    have HOP : Hid (op.a.isSome = oa.isSome) := hop
    clear hop
    have cI := hst.cellI
    have cQ := hst.cellQ
    have fQ := hst.freeQ
    simp only [IC] at cI
    simp only [QC, noL, noS] at cQ
    have S1 : Hid (Stage w _ _ (QC id kd tx op co tl al ac ga noL noL noL none none noS false)) := ((((hst.set 4 (.slice co.a co.len co.cap)).set 5 (.string tl)).set 6 (.string al)).set 7 (.slice ac.a ac.len ac.cap)).set 8 (.slice ga.a ga.len ga.cap)
    clear hst
    go_wp2_with fail
    refine (toItems_any it _ (by exact H.out.it.below S1.out.bel) HS.out.it).mono ?_
    rintro e w2 ⟨⟨it2, rfl, hit⟩, hb⟩
    have hst := S1.out.below hb
    have HIT : Hid (it2.a.isSome = it.a.isSome) := hit
    clear hit S1 cI cQ fQ hb
    have cI := hst.cellI
    have cQ := hst.cellQ
    have fQ := hst.freeQ
    simp only [IC] at cI
    simp only [QC, noL, noS] at cQ
    have S1 : Hid (Stage w _ _ (QC id kd tx op co tl al ac ga it2 noL noL none none noS false)) := hst.set 9 (.slice it2.a it2.len it2.cap)
    clear hst
    go_wp2_with fail
    refine (toItems_any lf _ (by exact H.out.lf.below S1.out.bel) HS.out.lf).mono ?_
    rintro e w10 ⟨⟨lf2, rfl, hlf⟩, hb⟩
    have hst := S1.out.below hb
    have H10 : Hid (lf2.a.isSome = lf.a.isSome) := hlf
    clear hlf S1 cI cQ fQ hb
    have cI := hst.cellI
    have cQ := hst.cellQ
    have fQ := hst.freeQ
    simp only [IC] at cI
    simp only [QC, noL, noS] at cQ
    have S1 : Hid (Stage w _ _ (QC id kd tx op co tl al ac ga it2 lf2 noL none none noS false)) := hst.set 10 (.slice lf2.a lf2.len lf2.cap)
    clear hst
    go_wp2_with fail
    refine (toItems_any rt _ (by exact H.out.rt.below S1.out.bel) HS.out.rt).mono ?_
    rintro e w11 ⟨⟨rt2, rfl, hrt⟩, hb⟩
    have hst := S1.out.below hb
    have H11 : Hid (rt2.a.isSome = rt.a.isSome) := hrt
    clear hrt S1 cI cQ fQ hb
    have cI := hst.cellI
    have cQ := hst.cellQ
    have fQ := hst.freeQ
    simp only [IC] at cI
    simp only [QC, noL, noS] at cQ
    have S1 : Hid (Stage w _ _ (QC id kd tx op co tl al ac ga it2 lf2 rt2 none none noS false)) := hst.set 11 (.slice rt2.a rt2.len rt2.cap)
    clear hst
    go_upto_if 85 with (fail)
    go_cut [6, 7, 8] (fun _ _ _ wc => ∃ mp : Option Nat, mp.isSome = ka.isSome ∧ Stage w wc (IC id kd tx ⟨oa, ol, oc⟩ co tl al ac ga it lf rt ⟨ka, kl, kc⟩ ⟨pa, pl, pc⟩ po tm ex) (QC id kd tx op co tl al ac ga it2 lf2 rt2 mp none noS false))
    case first =>
      have hst := S1.out
      clear S1 cI cQ fQ
      generalize w11.setCell ⟨w.heap.size + 1 + 1, 11, none⟩ (.slice rt2.a rt2.len rt2.cap) = W at *
      have cI := hst.cellI
      have cQ := hst.cellQ
      have fQ := hst.freeQ
      simp only [IC] at cI
      simp only [QC, noL, noS] at cQ
      have S1 : Hid (Stage w _ _ _) := hst
      have hlt := hst.lt
      clear hst
      cases ka with
      | none =>
        go_wp2
        go_meet
        case rel => exact ⟨none, rfl, S1.out⟩
      | some ka =>
        have hmk := mkMap54 kl
        go_wp2
        go_loopw [7, 8] (fun i _ wr => ∃ (k : Nat) (D : DataW Unit), k ≤ kl ∧ i = .int .i64 k ∧ wr.ownsMap Try.prog 9 (plainElem Try.prog 9) W.heap.size k D ∧ Stage w wr (IC id kd tx ⟨oa, ol, oc⟩ co tl al ac ga it lf rt ⟨some ka, kl, kc⟩ ⟨pa, pl, pc⟩ po tm ex) (QC id kd tx op co tl al ac ga it2 lf2 rt2 none none noS false))
          (fun i _ _ => kl - (intOf i).toNat)
        case atStart => exact ⟨0, .map [], Nat.zero_le _, rfl, World.ownsMap_made _ _ _ _, S1.out.below ((Below.refl _ _).alloc (Nat.le_refl _) _)⟩
        case round =>
          clear hmk n22 S1 cI cQ fQ
          obtain ⟨k, D, hk, rfl, hown, hst⟩ := hrel
          have cI := hst.cellI
          have cQ := hst.cellQ
          have fQ := hst.freeQ
          simp only [IC] at cI
          simp only [QC, noL, noS] at cQ
          have hkl := HS.out.pk
          simp only at hkl
          by_cases hlk : k < kl
          · obtain ⟨b, off, e, hbl, hc⟩ := H.out.pk.elem (by simp only; omega)
            simp only at e hc
            cases e
            obtain ⟨x, hx, hxs⟩ := hc k hlk
            have hx' := (hst.bel.cell (p := ⟨b, off + k, none⟩) hbl).trans hx
            have hkey := keyOf_string_mk (k := 9) Try.underlying9 hxs
            clear hc hx cQ fQ
            by_cases hlv : k < pl
            · obtain ⟨b2, off2, e2, hbl2, hc2⟩ := H.out.pv.elem (by simp only; omega)
              simp only at e2 hc2
              subst e2
              obtain ⟨y, hy, hys⟩ := hc2 k hlv
              have hy' := (hst.bel.cell (p := ⟨b2, off2 + k, none⟩) hbl2).trans hy
              clear hc2 hy
              have X : Hid (_ ∧ _) := And.intro hst hown
              clear hst
              go_wp2_with (at_mapUpdate; refine wpList_mapUpdate_own _ rfl _ _ _ 54 rfl 9 9 keyed9 Try.underlying54 _ W.heap.size k D rfl hown (by unfold maxLen; omega) _ _ _ rfl rfl hkey _ [] (plainElem_string Try.underlying9 hys) ?_)
              intro w1 hown1 hgrow1
              have R1 := X.out.1.grown hgrow1 hlt
              have X1 : Hid (_ ∧ _) := And.intro R1 hown1
              clear hown hown1 hgrow1 R1 X cI hx' hy' hkey
              go_wp2
              go_roundw
              case rel => (repeat apply Exists.intro); exact ⟨⟨k + 1, _, by omega, by go_num, X1.out.2, X1.out.1⟩, rfl⟩
              case measure => simp [intOf]; omega
            · have X : Hid (_ ∧ _) := And.intro hst hown
              clear hst
              go_wp2_with (at_mapUpdate; refine wpList_mapUpdate_own _ rfl _ _ _ 54 rfl 9 9 keyed9 Try.underlying54 _ W.heap.size k D rfl hown (by unfold maxLen; omega) _ _ _ rfl rfl hkey _ [] (plainElem_string Try.underlying9 (Nat.zero_le _)) ?_)
              intro w1 hown1 hgrow1
              have R1 := X.out.1.grown hgrow1 hlt
              have X1 : Hid (_ ∧ _) := And.intro R1 hown1
              clear hown hown1 hgrow1 R1 X cI hx' hkey
              go_wp2
              go_roundw
              case rel => (repeat apply Exists.intro); exact ⟨⟨k + 1, _, by omega, by go_num, X1.out.2, X1.out.1⟩, rfl⟩
              case measure => simp [intOf]; omega
          · have X : Hid _ := hst
            clear hst hown
            go_wp2
            go_meet
            case rel => exact ⟨some W.heap.size, rfl, X.out.set 12 _⟩
    case rest =>
      clear S1 cI cQ fQ n22
      obtain ⟨mp, hmp, hst⟩ := hcut
      have HMP : Hid (mp.isSome = ka.isSome) := hmp
      clear hmp
      have cI := hst.cellI
      have cQ := hst.cellQ
      have fQ := hst.freeQ
      have cR := hst.cellR
      have fR := hst.freeR
      simp only [IC] at cI
      simp only [QC, noL, noS] at cQ
      simp only [zeroQ, QC, noL, noS] at cR
      have S1 : Hid (Stage w _ _ _) := hst
      clear hst
      go_wp2
      have S2 := ((S1.out.set 13 (.pointer po)).set 14 (.string tm)).set 15 (.bool ex)
      have hR := putR_heap _ _ id kd tx op co tl al ac ga it2 lf2 rt2 mp po tm ex S2.res
      have hB := putR_below (w.heap.size + 1) id kd tx op co tl al ac ga it2 lf2 rt2 mp po tm ex S2.bel (by omega)
      refine bodyPost_ret (v := .agg (QC id kd tx op co tl al ac ga it2 lf2 rt2 mp po tm ex)) (results_cell_row Try.results30 _ _ (w.heap.size + 1) 56 _ (0, 0) _ rfl hR Try.underlying56 rfl (by kernel_rfl)) rfl ⟨⟨⟨id, kd, tx, op, co, tl, al, ac, ga, it2, lf2, rt2, mp, po, tm, ex, cb⟩, rfl, H.out.co.below hB, ?_⟩, hB⟩
      simp only [QOut.flags, QIn.flags, HOP.out, HIT.out, H10.out, H11.out, HMP.out]

end Go.Proofs.Qxb6604414a
