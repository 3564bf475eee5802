/-
  WHAT THE WALKS ARE TOLD: the input's struct as plain data ('QIn'), the memory behind it ('QIn.ok'), a question ('QOut'), and its thirteen flags.
-/
import Derived.Test.Qxb6604414aProg
import Derived.WalkKit
import Derived.WalkSpells
import Derived.WalkLawsBesides
namespace Go.Proofs.Qxb6604414a
open Go.RowKit

/-- a slice's three words -/
structure Sl where
  a : Option Addr
  len : Nat
  cap : Nat

/-- a slice of strings -/
structure StrsAt (w : World) (s : Sl) : Prop where
  le : s.len ≤ s.cap
  max : s.cap ≤ maxLen
  elem : 0 < s.len → ∃ b off, s.a = some ⟨b, off, none⟩ ∧ b < w.heap.size ∧ ∀ i, i < s.len → ∃ x : ByteArray, w.cell? ⟨b, off + i, none⟩ = some (.string x) ∧ x.size ≤ maxLen

/-- items: two strings each -/
structure ItsAt (w : World) (s : Sl) : Prop where
  le : s.len ≤ s.cap
  max : s.cap ≤ maxLen
  elem : 0 < s.len → ∃ b off, s.a = some ⟨b, off, none⟩ ∧ b < w.heap.size ∧ ∀ i, i < s.len → ∃ x y : ByteArray, w.cell? ⟨b, off + i * 2, none⟩ = some (.string x) ∧ w.cell? ⟨b, off + i * 2 + 1, none⟩ = some (.string y) ∧ x.size ≤ maxLen ∧ y.size ≤ maxLen

/-- options: two strings and a bool each -/
structure OptsAt (w : World) (s : Sl) : Prop where
  le : s.len ≤ s.cap
  max : s.cap ≤ maxLen
  elem : 0 < s.len → ∃ b off, s.a = some ⟨b, off, none⟩ ∧ b < w.heap.size ∧ ∀ i, i < s.len → ∃ (x y : ByteArray) (z : Bool), w.cell? ⟨b, off + i * 3, none⟩ = some (.string x) ∧ w.cell? ⟨b, off + i * 3 + 1, none⟩ = some (.string y) ∧ w.cell? ⟨b, off + i * 3 + 2, none⟩ = some (.bool z) ∧ x.size ≤ maxLen ∧ y.size ≤ maxLen

/-- gaps: slices of strings -/
structure GapsAt (w : World) (s : Sl) : Prop where
  le : s.len ≤ s.cap
  max : s.cap ≤ maxLen
  elem : 0 < s.len → ∃ b off, s.a = some ⟨b, off, none⟩ ∧ b < w.heap.size ∧ ∀ i, i < s.len → ∃ x : Sl, w.cell? ⟨b, off + i, none⟩ = some (.slice x.a x.len x.cap) ∧ StrsAt w x

/-- a slice of bytes that reads 'cb' -/
structure BytesAt (w : World) (s : Sl) (cb : List Int) : Prop where
  le : s.len ≤ s.cap
  max : s.cap ≤ maxLen
  length : cb.length = s.len
  elem : 0 < s.len → ∃ b off, s.a = some ⟨b, off, none⟩ ∧ b < w.heap.size ∧ ∀ i, i < s.len → w.cell? ⟨b, off + i, none⟩ = some (.int .u8 (cb.getD i 0))

theorem StrsAt.below {w w' : World} {s : Sl} (h : StrsAt w s) (hb : Below w.heap.size w w') : StrsAt w' s :=
  ⟨h.le, h.max, fun hl => by
    obtain ⟨b, off, e, hlt, hc⟩ := h.elem hl
    refine ⟨b, off, e, Nat.lt_of_lt_of_le hlt hb.size, fun i hi => ?_⟩
    obtain ⟨x, h1, h2⟩ := hc i hi
    exact ⟨x, (hb.cell (p := ⟨b, off + i, none⟩) hlt).trans h1, h2⟩⟩

theorem ItsAt.below {w w' : World} {s : Sl} (h : ItsAt w s) (hb : Below w.heap.size w w') : ItsAt w' s :=
  ⟨h.le, h.max, fun hl => by
    obtain ⟨b, off, e, hlt, hc⟩ := h.elem hl
    refine ⟨b, off, e, Nat.lt_of_lt_of_le hlt hb.size, fun i hi => ?_⟩
    obtain ⟨x, y, h1, h2, h3⟩ := hc i hi
    exact ⟨x, y, (hb.cell (p := ⟨b, off + i * 2, none⟩) hlt).trans h1, (hb.cell (p := ⟨b, off + i * 2 + 1, none⟩) hlt).trans h2, h3⟩⟩

theorem OptsAt.below {w w' : World} {s : Sl} (h : OptsAt w s) (hb : Below w.heap.size w w') : OptsAt w' s :=
  ⟨h.le, h.max, fun hl => by
    obtain ⟨b, off, e, hlt, hc⟩ := h.elem hl
    refine ⟨b, off, e, Nat.lt_of_lt_of_le hlt hb.size, fun i hi => ?_⟩
    obtain ⟨x, y, z, h1, h2, h3, h4⟩ := hc i hi
    exact ⟨x, y, z, (hb.cell (p := ⟨b, off + i * 3, none⟩) hlt).trans h1, (hb.cell (p := ⟨b, off + i * 3 + 1, none⟩) hlt).trans h2, (hb.cell (p := ⟨b, off + i * 3 + 2, none⟩) hlt).trans h3, h4⟩⟩

theorem GapsAt.below {w w' : World} {s : Sl} (h : GapsAt w s) (hb : Below w.heap.size w w') : GapsAt w' s :=
  ⟨h.le, h.max, fun hl => by
    obtain ⟨b, off, e, hlt, hc⟩ := h.elem hl
    refine ⟨b, off, e, Nat.lt_of_lt_of_le hlt hb.size, fun i hi => ?_⟩
    obtain ⟨x, h1, h2⟩ := hc i hi
    exact ⟨x, (hb.cell (p := ⟨b, off + i, none⟩) hlt).trans h1, h2.below hb⟩⟩

theorem BytesAt.below {w w' : World} {s : Sl} {cb : List Int} (h : BytesAt w s cb) (hb : Below w.heap.size w w') : BytesAt w' s cb :=
  ⟨h.le, h.max, h.length, fun hl => by
    obtain ⟨b, off, e, hlt, hc⟩ := h.elem hl
    exact ⟨b, off, e, Nat.lt_of_lt_of_le hlt hb.size, fun i hi => (hb.cell (p := ⟨b, off + i, none⟩) hlt).trans (hc i hi)⟩⟩

/-- the input's struct; 'cb': the bytes that 'Correct' reads -/
structure QIn where
  id : ByteArray
  kd : ByteArray
  tx : ByteArray
  op : Sl
  co : Sl
  tl : ByteArray
  al : ByteArray
  ac : Sl
  ga : Sl
  it : Sl
  lf : Sl
  rt : Sl
  pk : Sl
  pv : Sl
  po : Option Addr
  tm : ByteArray
  ex : Bool
  cb : List Int

def QIn.cells (q : QIn) : Array Value := #[.string q.id, .string q.kd, .string q.tx, .slice q.op.a q.op.len q.op.cap, .slice q.co.a q.co.len q.co.cap, .string q.tl, .string q.al,
  .slice q.ac.a q.ac.len q.ac.cap, .slice q.ga.a q.ga.len q.ga.cap, .slice q.it.a q.it.len q.it.cap, .slice q.lf.a q.lf.len q.lf.cap, .slice q.rt.a q.rt.len q.rt.cap,
  .slice q.pk.a q.pk.len q.pk.cap, .slice q.pv.a q.pv.len q.pv.cap, .pointer q.po, .string q.tm, .bool q.ex]

/-- the memory behind it -/
structure QIn.ok (w : World) (q : QIn) : Prop where
  op : OptsAt w q.op
  co : BytesAt w q.co q.cb
  ac : StrsAt w q.ac
  ga : GapsAt w q.ga
  it : ItsAt w q.it
  lf : ItsAt w q.lf
  rt : ItsAt w q.rt
  pk : StrsAt w q.pk
  pv : StrsAt w q.pv
  id : q.id.size ≤ maxLen
  kd : q.kd.size ≤ maxLen
  tx : q.tx.size ≤ maxLen
  tl : q.tl.size ≤ maxLen
  al : q.al.size ≤ maxLen
  tm : q.tm.size ≤ maxLen

theorem QIn.ok.below {w w' : World} {q : QIn} (h : q.ok w) (hb : Below w.heap.size w w') : q.ok w' :=
  ⟨h.op.below hb, h.co.below hb, h.ac.below hb, h.ga.below hb, h.it.below hb, h.lf.below hb, h.rt.below hb, h.pk.below hb, h.pv.below hb, h.id, h.kd, h.tx, h.tl, h.al, h.tm⟩

/-- 'it returned some int', 'some bool' -/
def RetInt (e : Ending) : Prop := ∃ z, e = .returned (.int .i64 z)
theorem RetInt.mk (z : Int) : RetInt (.returned (.int .i64 z)) := ⟨z, rfl⟩
def RetBool (e : Ending) : Prop := ∃ z, e = .returned (.bool z)
theorem RetBool.mk (z : Bool) : RetBool (.returned (.bool z)) := ⟨z, rfl⟩

theorem Try.cells79 : Try.prog.cellsOf 79 = 2 := by kernel_rfl
theorem Try.cells77 : Try.prog.cellsOf 77 = 3 := by kernel_rfl

/-- all old cells and all old marks read as before -/
theorem bcell {W w1 : World} (hb : Below W.heap.size W w1) : (∀ b o, b < W.heap.size → w1.cell? ⟨b, o, none⟩ = W.cell? ⟨b, o, none⟩) ∧ (∀ b o, b < W.heap.size → w1.frozen? ⟨b, o, none⟩ = W.frozen? ⟨b, o, none⟩) :=
  ⟨fun b o h => hb.cell (p := ⟨b, o, none⟩) h, fun b o h => hb.frozen (p := ⟨b, o, none⟩) h⟩

end Go.Proofs.Qxb6604414a
