/-
  'kindFields' and 'ZZkindFields'.
-/
import Derived.Test.Qxb6604414aBase
namespace Go.Proofs.Qxb6604414a
open Go.RowKit

/-- a question -/
structure QOut where
  id : ByteArray
  kd : ByteArray
  tx : ByteArray
  op : Sl
  co : Sl
  tl : ByteArray
  al : ByteArray
  ac : Sl
  ga : Sl
  it : Sl
  lf : Sl
  rt : Sl
  mp : Option Nat
  po : Option Addr
  tm : ByteArray
  ex : Bool
  cb : List Int

def QOut.cells (q : QOut) : Array Value := #[.string q.id, .string q.kd, .string q.tx, .slice q.op.a q.op.len q.op.cap, .slice q.co.a q.co.len q.co.cap, .string q.tl, .string q.al,
  .slice q.ac.a q.ac.len q.ac.cap, .slice q.ga.a q.ga.len q.ga.cap, .slice q.it.a q.it.len q.it.cap, .slice q.lf.a q.lf.len q.lf.cap, .slice q.rt.a q.rt.len q.rt.cap,
  .map q.mp, .pointer q.po, .string q.tm, .bool q.ex]

def strOf (cb : List Int) : ByteArray := cb.foldl (fun r n => r.push (UInt8.ofNat n.toNat)) ByteArray.empty

theorem conv_bytes (w : World) (s : Sl) (cb : List Int) (h : BytesAt w s cb) (hs : s.a ≠ none) : (convert 52 9 (.slice s.a s.len s.cap)).run Try.prog w = .ok (.string (strOf cb)) w := by
  rw [run_convert_bytes_string w 52 9 5 s.a s.len s.cap Try.underlying52 Try.underlying5 Try.underlying9]
  obtain ⟨a, ha⟩ : ∃ a, s.a = some a := by cases hq : s.a with | none => exact absurd hq hs | some a => exact ⟨a, rfl⟩
  rw [ha]
  refine run_bytesToString w a s.len s.cap cb ?_
  have hl := h.length
  have := run_loadCells_list (P := Try.prog) w a (cb.map (Value.int .u8)) (fun j v hv => by
    have hj : j < s.len := by
      have := (List.getElem?_eq_some_iff.1 hv).1
      simpa [hl] using this
    obtain ⟨b, off, e, _, hc⟩ := h.elem (by omega)
    rw [ha] at e
    cases e
    have hadd : (⟨b, off, none⟩ : Addr).add j = ⟨b, off + j, none⟩ := by unfold Addr.add; split <;> simp_all
    rw [hadd, hc j hj, ← hv]
    simp [List.getElem?_map, List.getElem?_eq_getElem (show j < cb.length by omega)])
  simpa [hl] using this

def names : List ByteArray := [⟨#[111, 112, 116, 105, 111, 110, 115]⟩, ⟨#[99, 111, 114, 114, 101, 99, 116]⟩, ⟨#[116, 111, 108, 101, 114, 97, 110, 99, 101]⟩, ⟨#[97, 108, 109, 111, 115, 116, 83, 104, 97, 114, 101]⟩, ⟨#[97, 99, 99, 101, 112, 116, 101, 100]⟩, ⟨#[103, 97, 112, 115]⟩, ⟨#[105, 116, 101, 109, 115]⟩, ⟨#[108, 101, 102, 116]⟩, ⟨#[114, 105, 103, 104, 116]⟩, ⟨#[99, 111, 114, 114, 101, 99, 116, 80, 97, 105, 114, 115]⟩, ⟨#[112, 111, 105, 110, 116, 115]⟩, ⟨#[116, 105, 109, 101, 76, 105, 109, 105, 116]⟩, ⟨#[101, 120, 99, 108, 117, 100, 101, 70, 114, 111, 109, 83, 99, 111, 114, 101]⟩]
def nameAt (i : Nat) : ByteArray := names.getD i ByteArray.empty

/-- which of the thirteen fields are given -/
def QOut.flags (q : QOut) : List Bool := [q.op.a.isSome, q.co.a.isSome && !((strOf q.cb).toList == [110, 117, 108, 108]), !q.tl.toList.isEmpty, !q.al.toList.isEmpty, q.ac.a.isSome, q.ga.a.isSome, q.it.a.isSome, q.lf.a.isSome, q.rt.a.isSome, q.mp.isSome, q.po.isSome, !q.tm.toList.isEmpty, q.ex]

def QIn.flags (q : QIn) : List Bool := [q.op.a.isSome, q.co.a.isSome && !((strOf q.cb).toList == [110, 117, 108, 108]), !q.tl.toList.isEmpty, !q.al.toList.isEmpty, q.ac.a.isSome, q.ga.a.isSome, q.it.a.isSome, q.lf.a.isSome, q.rt.a.isSome, q.pk.a.isSome, q.po.isSome, !q.tm.toList.isEmpty, q.ex]

/-- the thirteen entries in memory -/
def RowAt (w : World) (b : Nat) (fl : List Bool) : Prop := ∀ i, i < 13 → w.cell? ⟨b, i * 2, none⟩ = some (.string (nameAt i)) ∧ w.cell? ⟨b, i * 2 + 1, none⟩ = some (.bool (fl.getD i false))

theorem lt13 {p : Nat → Prop} (h : p 0 ∧ p 1 ∧ p 2 ∧ p 3 ∧ p 4 ∧ p 5 ∧ p 6 ∧ p 7 ∧ p 8 ∧ p 9 ∧ p 10 ∧ p 11 ∧ p 12) : ∀ i, i < 13 → p i := by
  obtain ⟨h0, h1, h2, h3, h4, h5, h6, h7, h8, h9, h10, h11, h12⟩ := h
  intro i hi
  match i, hi with
  | 0, _ => exact h0
  | 1, _ => exact h1
  | 2, _ => exact h2
  | 3, _ => exact h3
  | 4, _ => exact h4
  | 5, _ => exact h5
  | 6, _ => exact h6
  | 7, _ => exact h7
  | 8, _ => exact h8
  | 9, _ => exact h9
  | 10, _ => exact h10
  | 11, _ => exact h11
  | 12, _ => exact h12

/-- the row of thirteen entries, laid out -/
def kfCells (f0 f1 f2 f3 f4 f5 f6 f7 f8 f9 f10 f11 f12 : Bool) : Array Value := #[.string ⟨#[111, 112, 116, 105, 111, 110, 115]⟩, .bool f0, .string ⟨#[99, 111, 114, 114, 101, 99, 116]⟩, .bool f1, .string ⟨#[116, 111, 108, 101, 114, 97, 110, 99, 101]⟩, .bool f2, .string ⟨#[97, 108, 109, 111, 115, 116, 83, 104, 97, 114, 101]⟩, .bool f3, .string ⟨#[97, 99, 99, 101, 112, 116, 101, 100]⟩, .bool f4, .string ⟨#[103, 97, 112, 115]⟩, .bool f5, .string ⟨#[105, 116, 101, 109, 115]⟩, .bool f6, .string ⟨#[108, 101, 102, 116]⟩, .bool f7, .string ⟨#[114, 105, 103, 104, 116]⟩, .bool f8, .string ⟨#[99, 111, 114, 114, 101, 99, 116, 80, 97, 105, 114, 115]⟩, .bool f9, .string ⟨#[112, 111, 105, 110, 116, 115]⟩, .bool f10, .string ⟨#[116, 105, 109, 101, 76, 105, 109, 105, 116]⟩, .bool f11, .string ⟨#[101, 120, 99, 108, 117, 100, 101, 70, 114, 111, 109, 83, 99, 111, 114, 101]⟩, .bool f12]

theorem rowAt_kf (w : World) (o : Obj) (f0 f1 f2 f3 f4 f5 f6 f7 f8 f9 f10 f11 f12 : Bool) :
    RowAt ((w.alloc o).alloc (.cells (kfCells f0 f1 f2 f3 f4 f5 f6 f7 f8 f9 f10 f11 f12) 84)) (w.heap.size + 1) [f0, f1, f2, f3, f4, f5, f6, f7, f8, f9, f10, f11, f12] := by
  have hc : ∀ j, ((w.alloc o).alloc (.cells (kfCells f0 f1 f2 f3 f4 f5 f6 f7 f8 f9 f10 f11 f12) 84)).cell? ⟨w.heap.size + 1, j, none⟩ = (kfCells f0 f1 f2 f3 f4 f5 f6 f7 f8 f9 f10 f11 f12)[j]? :=
    fun j => cell_of_row _ _ j _ 84 (0, 0) (heap_alloc2_new w o _)
  refine lt13 ⟨?_, ?_, ?_, ?_, ?_, ?_, ?_, ?_, ?_, ?_, ?_, ?_, ?_⟩
  all_goals (rw [hc, hc]; exact ⟨rfl, rfl⟩)

set_option maxHeartbeats 2000000 in
set_option maxRecDepth 100000 in
theorem kindFields_any (q : QOut) (w : World) (h : BytesAt w q.co q.cb) :
    Calls Try.prog 45 #[.agg q.cells] w fun e w' => e = .returned (.slice (some ⟨w.heap.size + 1, 0, none⟩) 13 13) ∧ RowAt w' (w.heap.size + 1) q.flags ∧ w.heap.size + 1 < w'.heap.size ∧ Below w.heap.size w w' := by
  have n51 := fun (w : World) a n c => run_neq_slice_nil_any (P := Try.prog) w 51 _ a n c 0 0 Try.underlying51
  have n52 := fun (w : World) a n c => run_neq_slice_nil_any (P := Try.prog) w 52 _ a n c 0 0 Try.underlying52
  have n22 := fun (w : World) a n c => run_neq_slice_nil_any (P := Try.prog) w 22 _ a n c 0 0 Try.underlying22
  have n41 := fun (w : World) a n c => run_neq_slice_nil_any (P := Try.prog) w 41 _ a n c 0 0 Try.underlying41
  have n26 := fun (w : World) a n c => run_neq_slice_nil_any (P := Try.prog) w 26 _ a n c 0 0 Try.underlying26
  have n54 := fun (w : World) r => run_neq_map_nil (P := Try.prog) w 54 _ _ r Try.underlying54
  have hb1 : ∀ o, Below w.heap.size w (w.alloc o) := fun o => (Below.refl _ _).alloc (Nat.le_refl _) _
  have cv := fun o => conv_bytes (w.alloc o) q.co q.cb (h.below (hb1 o))
  clear h hb1
  obtain ⟨id, kd, tx, op, ⟨ca, cl, cc⟩, tl, al, ac, ga, it, lf, rt, mp, po, tm, ex, cb⟩ := q
  unfold QOut.cells
  simp only at *
  cases ca with
  | none =>
    clear cv
    go_enter Try.func45, Try.ntmps45
    go_wp2
    go_ret
    exact ⟨rfl, rowAt_kf _ _ _ _ _ _ _ _ _ _ _ _ _ _ _, by simp, ((Below.refl _ _).alloc (Nat.le_refl _) _).alloc (by simp) _⟩
  | some ca =>
    replace cv := fun o => cv o (by simp)
    generalize hst : strOf cb = st at *
    have HST : Hid (strOf cb = st) := hst
    clear hst
    go_enter Try.func45, Try.ntmps45
    go_wp2
    go_ret
    have hst := HST.out
    subst hst
    exact ⟨rfl, rowAt_kf _ _ _ _ _ _ _ _ _ _ _ _ _ _ _, by simp, ((Below.refl _ _).alloc (Nat.le_refl _) _).alloc (by simp) _⟩

end Go.Proofs.Qxb6604414a
