/-
  BYTES IN MEMORY; the small walks: the two bounds, 'zzClone', 'zzSame'.
-/
import Derived.Test.Qxb6604448aProg
import Derived.Test.Qxb6604448aPlain
import Derived.WalkKit
import Derived.WalkSpells
import Derived.WalkLawsBesides
import Derived.Deep.QuietTactic
import Derived.BigQuiet
namespace Go.Proofs.Qxb6604448a
open Go.RowKit

/-- a slice's three words -/
structure Sl where
  a : Option Addr
  len : Nat
  cap : Nat

/-- a slice of bytes that reads 'zs' -/
structure BytesAt (w : World) (s : Sl) (zs : List Int) : Prop where
  le : s.len ≤ s.cap
  max : s.cap ≤ maxLen
  length : zs.length = s.len
  elem : 0 < s.len → ∃ b off, s.a = some ⟨b, off, none⟩ ∧ b < w.heap.size ∧ ∀ i, i < s.len → w.cell? ⟨b, off + i, none⟩ = some (.int .u8 (at_ zs i))

theorem BytesAt.below {w w' : World} {s : Sl} {zs : List Int} (h : BytesAt w s zs) (hb : Below w.heap.size w w') : BytesAt w' s zs :=
  ⟨h.le, h.max, h.length, fun hl => by
    obtain ⟨b, off, e, hlt, hc⟩ := h.elem hl
    exact ⟨b, off, e, Nat.lt_of_lt_of_le hlt hb.size, fun i hi => (hb.cell (p := ⟨b, off + i, none⟩) hlt).trans (hc i hi)⟩⟩

theorem drewN_below (w : World) (d : Nat) : Below w.heap.size w (w.drewN d) := ⟨rfl, rfl, rfl, Nat.le_refl _, fun _ _ => rfl⟩

set_option maxHeartbeats 400000 in
theorem zz5_any (a : Option Addr) (len cap : Nat) (w : World) (hl : len ≤ maxLen) :
    Calls Try.prog 5 #[.slice a len cap] w fun e w' => (∃ b, e = .returned (.bool b)) ∧ w' = w := by
  unfold maxLen at hl
  go_enter Try.func5, Try.ntmps5
  by_cases h : 1048576 < len
  · go_wp2
    go_ret
    exact ⟨⟨_, rfl⟩, rfl⟩
  · go_wp2
    go_ret
    exact ⟨⟨_, rfl⟩, rfl⟩

set_option maxHeartbeats 400000 in
theorem zz9_any (n : Int) (a : Option Addr) (len cap : Nat) (w : World) (hl : len ≤ maxLen) :
    Calls Try.prog 9 #[.int .u64 n, .slice a len cap] w fun e w' => (∃ b, e = .returned (.bool b)) ∧ w' = w := by
  unfold maxLen at hl
  go_enter Try.func9, Try.ntmps9
  by_cases h : 1048576 < len
  · go_wp2
    go_ret
    exact ⟨⟨_, rfl⟩, rfl⟩
  · go_wp2
    go_ret
    exact ⟨⟨_, rfl⟩, rfl⟩

/-- a row of n cells that is being filled: the first k are -/
structure Filled (w : World) (b n : Nat) (f : Nat → Value) (k : Nat) : Prop where
  there : ∀ j, j < n → ∃ v, w.cell? ⟨b, j, none⟩ = some v
  got : ∀ j, j < k → w.cell? ⟨b, j, none⟩ = some (f j)
  free : ∀ j, w.frozen? ⟨b, j, none⟩ = false

theorem Filled.step {w : World} {b n : Nat} {f : Nat → Value} {k : Nat} (h : Filled w b n f k) (hk : k < n) : Filled (w.setCell ⟨b, k, none⟩ (f k)) b n f (k + 1) := by
  obtain ⟨v, hv⟩ := h.there k hk
  have hs : (w.setCell ⟨b, k, none⟩ (f k)).cell? ⟨b, k, none⟩ = some (f k) := World.cell?_setCell_same _ _ _ hv
  have ho : ∀ j, j ≠ k → (w.setCell ⟨b, k, none⟩ (f k)).cell? ⟨b, j, none⟩ = w.cell? ⟨b, j, none⟩ := fun j hj => World.cell?_setCell_other _ _ _ _ (fun h => hj (congrArg Addr.off h).symm)
  refine ⟨fun j hj => ?_, fun j hj => ?_, fun j => by simp [h.free j]⟩
  · by_cases e : j = k
    · subst e; exact ⟨_, hs⟩
    · rw [ho j e]; exact h.there j hj
  · by_cases e : j = k
    · subst e; exact hs
    · rw [ho j e]; exact h.got j (by omega)

theorem Filled.made {w : World} {b : Nat} {cs : Array Value} {t : TypeId} (f : Nat → Value) (hg : w.heap[b]? = some (.cells cs t (0, 0))) : Filled w b cs.size f 0 :=
  ⟨fun j hj => ⟨cs[j], by rw [cell_of_row w b j cs t _ hg]; simp [hj]⟩, fun j hj => absurd hj (Nat.not_lt_zero _), fun j => frozen_of_row w b j cs t hg⟩

theorem Try.info5 : (Try.prog.info? 5).map (fun i => (i.zero, i.size, i.bytes)) = some (some (.int .u8 0), 1, 1) := by kernel_rfl

def made22 (n : Nat) : Array Value := madeCells #[.int .u8 0] n
theorem size_made22 (n : Nat) : (made22 n).size = n := size_madeCells _ _

theorem mk22 (n : Nat) (hn : n ≤ 1048576) (w : World) : (Instr.makeSlice 22 (.int .i64 n) (.int .i64 n)).run Try.prog w = .ok (.slice (some ⟨w.heap.size, 0, none⟩) n n) (w.alloc (.cells (made22 n) 5)) := by
  obtain ⟨i, hi, hz0, hz1, hz2⟩ := info_parts Try.info5
  have := run_make (P := Try.prog) w 22 5 i _ Try.underlying22 hi hz0 .i64 .i64 n n (by omega) (by omega) (by rw [hz2]; omega) (by omega)
  simp only [Int.toNat_natCast, hz1, Nat.mul_one] at this
  exact this

theorem filled0 (w : World) (n : Nat) (f : Nat → Value) : Filled (w.alloc (.cells (made22 n) 5)) w.heap.size n f 0 := by
  have := Filled.made f (heap_alloc_new w (.cells (made22 n) 5))
  rwa [size_made22] at this

/-- a slice of bytes handed back, fresh, that reads zs -/
def RetBytes (zs : List Int) (e : Ending) (w' : World) : Prop := ∃ s : Sl, e = .returned (.slice s.a s.len s.cap) ∧ BytesAt w' s zs

set_option maxHeartbeats 400000 in
theorem clone_any (s : Sl) (zs : List Int) (w : World) (h : BytesAt w s zs) (hs : s.len ≤ 1048576) :
    Calls Try.prog 6 #[.slice s.a s.len s.cap] w fun e w' => RetBytes zs e w' ∧ Below w.heap.size w w' := by
  have n22 := fun (w : World) a n c => Lib.run_eql_slice_nil (P := Try.prog) w 22 _ a n c 0 0 Try.underlying22
  have hel := h.elem
  have hln := h.length
  have H : Hid (BytesAt w s zs) := h
  clear h
  obtain ⟨a, len, cap⟩ := s
  simp only at *
  cases a with
  | none =>
    have h0 : len = 0 := by
      rcases Nat.eq_zero_or_pos len with h0 | h0
      · exact h0
      · obtain ⟨b, off, e, _⟩ := hel h0
        cases e
    clear hel
    go_enter Try.func6, Try.ntmps6
    go_wp2
    go_ret
    exact ⟨⟨⟨none, 0, 0⟩, rfl, Nat.le_refl _, Nat.zero_le _, hln.trans h0, fun h => absurd h (Nat.lt_irrefl 0)⟩, Below.refl _ _⟩
  | some a =>
    have hmk := mk22 len hs
    have HE : Hid _ := hel
    have HL : Hid _ := hln
    clear hel hln
    go_enter Try.func6, Try.ntmps6
    go_wp2
    go_loopw [4] (fun i wr => ∃ k : Nat, k ≤ len ∧ i = .int .i64 k ∧ Filled wr w.heap.size len (fun j => .int .u8 (at_ zs j)) k ∧ Below w.heap.size w wr ∧ w.heap.size < wr.heap.size) (fun i _ => len - (intOf i).toNat)
    case atStart => exact ⟨0, Nat.zero_le _, rfl, filled0 w len _, (Below.refl _ _).alloc (Nat.le_refl _) _, by simp⟩
    case round =>
      obtain ⟨k, hk, rfl, hf, hb, hz⟩ := hrel
      clear n22 hmk
      by_cases hlt : k < len
      · obtain ⟨b, off, e, hbl, hc⟩ := HE.out (by omega)
        cases e
        have hx := (hb.cell (p := ⟨b, off + k, none⟩) hbl).trans (hc k hlt)
        obtain ⟨v1, c1⟩ := hf.there k hlt
        have f1 := hf.free k
        have X : Hid _ := hf.step hlt
        clear hf hc
        generalize at_ zs k = z at *
        go_wp2
        go_roundw
        case rel => exact ⟨k + 1, by omega, by go_num, X.out, hb.setCell (by simp) _, by simpa using hz⟩
        case measure => simp [intOf]; omega
      · have X : Hid _ := hf
        clear hf
        obtain rfl : k = len := by omega
        go_wp2
        go_ret
        refine ⟨⟨⟨_, _, _⟩, rfl, Nat.le_refl _, by simp only [maxLen]; omega, HL.out, fun _ => ⟨_, 0, rfl, hz, fun i hi => ?_⟩⟩, hb⟩
        rw [Nat.zero_add]
        exact X.out.got i hi

set_option maxHeartbeats 400000 in
theorem same_any (s t : Sl) (zs : List Int) (w : World) (h : BytesAt w s zs) (g : BytesAt w t zs) :
    Calls Try.prog 8 #[.slice s.a s.len s.cap, .slice t.a t.len t.cap] w fun e w' => e = .returned (.bool true) ∧ ∃ d, w' = w.drewN d := by
  have hel := h.elem
  have gel := g.elem
  have hl : s.len = t.len := by rw [← h.length, ← g.length]
  have hm := Nat.le_trans h.le h.max
  clear h g
  obtain ⟨a, len, cap⟩ := s
  obtain ⟨b, len', cap'⟩ := t
  simp only at *
  subst hl
  unfold maxLen at hm
  have HE : Hid _ := hel
  have GE : Hid _ := gel
  clear hel gel
  go_enter Try.func8, Try.ntmps8
  go_wp2
  go_loopw [5] (fun i wr => ∃ k d : Nat, k ≤ len ∧ i = .int .i64 k ∧ wr = w.drewN d) (fun i _ => len - (intOf i).toNat)
  case atStart => exact ⟨0, 0, Nat.zero_le _, rfl, rfl⟩
  case round =>
    obtain ⟨k, d, hk, rfl, rfl⟩ := hrel
    by_cases hlt : k < len
    · obtain ⟨b1, o1, rfl, hb1, hc1⟩ := HE.out (by omega)
      obtain ⟨b2, o2, rfl, hb2, hc2⟩ := GE.out (by omega)
      have x1 := hc1 k hlt
      have x2 := hc2 k hlt
      have hi : (k : Int) < (len : Int) := by omega
      clear hc1 hc2 HE GE
      generalize at_ zs k = z at *
      go_wp2
      go_quiet (fail)
      go_wp2
      go_roundw
      case rel => exact ⟨k + 1, _, by omega, by go_num, rfl⟩
      case measure => simp [intOf]; omega
    · go_wp2
      go_ret
      exact ⟨rfl, d, rfl⟩

end Go.Proofs.Qxb6604448a
