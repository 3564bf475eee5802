/-
  'ZZkindFields'.
-/
import Derived.Test.Qxb6604414aKF
namespace Go.Proofs.Qxb6604414a
open Go.RowKit

/-- what 'ZZkindFields' hands out: the names and the flags, each a row of its own -/
def Handed (w : World) (fl : List Bool) (e : Ending) (w' : World) : Prop :=
  ∃ n g, e = .returned (.tuple #[.slice (some ⟨n, 0, none⟩) 13 13, .slice (some ⟨g, 0, none⟩) 13 13]) ∧ w.heap.size ≤ n ∧ w.heap.size ≤ g ∧ n < w'.heap.size ∧ g < w'.heap.size ∧
    (∀ i, i < 13 → w'.cell? ⟨n, i, none⟩ = some (.string (nameAt i))) ∧ ∀ i, i < 13 → w'.cell? ⟨g, i, none⟩ = some (.bool (fl.getD i false))

def made22 : Array Value := #[.string ⟨#[]⟩, .string ⟨#[]⟩, .string ⟨#[]⟩, .string ⟨#[]⟩, .string ⟨#[]⟩, .string ⟨#[]⟩, .string ⟨#[]⟩, .string ⟨#[]⟩, .string ⟨#[]⟩, .string ⟨#[]⟩, .string ⟨#[]⟩, .string ⟨#[]⟩, .string ⟨#[]⟩]
def made47 : Array Value := #[.bool false, .bool false, .bool false, .bool false, .bool false, .bool false, .bool false, .bool false, .bool false, .bool false, .bool false, .bool false, .bool false]
theorem mk22 (w : World) : (Instr.makeSlice 22 (.int .i64 13) (.int .i64 13)).run Try.prog w = .ok (.slice (some ⟨w.heap.size, 0, none⟩) 13 13) (w.alloc (.cells made22 9)) := by kernel_rfl
theorem mk47 (w : World) : (Instr.makeSlice 47 (.int .i64 13) (.int .i64 13)).run Try.prog w = .ok (.slice (some ⟨w.heap.size, 0, none⟩) 13 13) (w.alloc (.cells made47 4)) := by kernel_rfl

/-- a row of n cells that is being filled: the first k are -/
structure Filled (w : World) (b n : Nat) (f : Nat → Value) (k : Nat) : Prop where
  there : ∀ j, j < n → ∃ v, w.cell? ⟨b, j, none⟩ = some v
  got : ∀ j, j < k → w.cell? ⟨b, j, none⟩ = some (f j)
  free : ∀ j, w.frozen? ⟨b, j, none⟩ = false

theorem Filled.step {w : World} {b n : Nat} {f : Nat → Value} {k : Nat} (h : Filled w b n f k) (hk : k < n) : Filled (w.setCell ⟨b, k, none⟩ (f k)) b n f (k + 1) := by
  obtain ⟨v, hv⟩ := h.there k hk
  have hs : (w.setCell ⟨b, k, none⟩ (f k)).cell? ⟨b, k, none⟩ = some (f k) := World.cell?_setCell_same _ _ _ hv
  have ho : ∀ j, j ≠ k → (w.setCell ⟨b, k, none⟩ (f k)).cell? ⟨b, j, none⟩ = w.cell? ⟨b, j, none⟩ := fun j hj => World.cell?_setCell_other _ _ _ _ (fun h => hj (congrArg Addr.off h).symm)
  refine ⟨fun j hj => ?_, fun j hj => ?_, fun j => by simp [h.free j]⟩
  · by_cases e : j = k
    · subst e; exact ⟨_, hs⟩
    · rw [ho j e]; exact h.there j hj
  · by_cases e : j = k
    · subst e; exact hs
    · rw [ho j e]; exact h.got j (by omega)

theorem Filled.other {w : World} {b n : Nat} {f : Nat → Value} {k : Nat} (h : Filled w b n f k) (b' o : Nat) (v : Value) (hb : b' ≠ b) : Filled (w.setCell ⟨b', o, none⟩ v) b n f k := by
  have ho : ∀ j, (w.setCell ⟨b', o, none⟩ v).cell? ⟨b, j, none⟩ = w.cell? ⟨b, j, none⟩ := fun j => World.cell?_setCell_other _ _ _ _ (fun h => hb (congrArg Addr.block h))
  exact ⟨fun j hj => by rw [ho]; exact h.there j hj, fun j hj => by rw [ho]; exact h.got j hj, fun j => by simp [h.free j]⟩

theorem Filled.made {w : World} {b : Nat} {cs : Array Value} {t : TypeId} (f : Nat → Value) (hg : w.heap[b]? = some (.cells cs t (0, 0))) : Filled w b cs.size f 0 :=
  ⟨fun j hj => ⟨cs[j], by rw [cell_of_row w b j cs t _ hg]; simp [hj]⟩, fun j hj => absurd hj (Nat.not_lt_zero _), fun j => frozen_of_row w b j cs t hg⟩

theorem RowAt.below {B : Nat} {w w' : World} {b : Nat} {fl : List Bool} (h : RowAt w b fl) (hb : Below B w w') (hlt : b < B) : RowAt w' b fl := fun i hi =>
  ⟨(hb.cell (p := ⟨b, i * 2, none⟩) hlt).trans (h i hi).1, (hb.cell (p := ⟨b, i * 2 + 1, none⟩) hlt).trans (h i hi).2⟩

theorem RowAt.setCell {w : World} {b b' o : Nat} {fl : List Bool} (h : RowAt w b fl) (hne : b' ≠ b) (v : Value) : RowAt (w.setCell ⟨b', o, none⟩ v) b fl := fun i hi =>
  ⟨(World.cell?_setCell_other _ _ _ _ (fun h => hne (congrArg Addr.block h))).trans (h i hi).1, (World.cell?_setCell_other _ _ _ _ (fun h => hne (congrArg Addr.block h))).trans (h i hi).2⟩

set_option maxHeartbeats 1000000 in
set_option maxRecDepth 100000 in
theorem zzKindFields_any (q : QOut) (w : World) (h : BytesAt w q.co q.cb) :
    Calls Try.prog 29 #[.agg q.cells] w fun e w' => Handed w q.flags e w' ∧ Below w.heap.size w w' := by
  have hcs : q.cells.size = 16 := rfl
  have HK : Hid (Calls Try.prog 45 #[.agg q.cells] _ _) := kindFields_any q _ (h.below ((Below.refl _ _).alloc (Nat.le_refl _) (.cells q.cells 56)))
  clear h
  have m1 := mk22
  have m2 := mk47
  generalize q.flags = fl at *
  generalize q.cells = cs at *
  go_enter Try.func29, Try.ntmps29
  go_wp2_with (refine wpList_load_row rfl 56 _ rfl w.heap.size rfl 56 cs (0, 0) _ (heap_alloc_new _ _) Try.underlying56 rfl (by rw [hcs]; kernel_rfl) ?_)
  refine (HK.out).mono ?_
  rintro e w1 ⟨rfl, hrow, hlt, hb⟩
  clear HK
  simp only [World.size_alloc] at hrow hlt hb ⊢
  go_wp2
  go_loopw [7] (fun i wr => ∃ k : Nat, k ≤ 13 ∧ i = .int .i64 k ∧ Filled wr w1.heap.size 13 (fun j => .string (nameAt j)) k ∧ Filled wr (w1.heap.size + 1) 13 (fun j => .bool (fl.getD j false)) k ∧ RowAt wr (w.heap.size + 1 + 1) fl ∧ wr.heap.size = w1.heap.size + 2 ∧ Below w.heap.size w wr)
    (fun i _ => 13 - (intOf i).toNat)
  case atStart =>
    refine ⟨0, by omega, rfl, Filled.made (cs := made22) _ (heap_alloc2_old w1 _ _), Filled.made (cs := made47) _ (heap_alloc2_new w1 _ _), ?_, by simp, ?_⟩
    · exact hrow.below (((Below.refl _ _).alloc (Nat.le_refl _) _).alloc (by simp) _) hlt
    · exact ((((Below.refl _ _).alloc (Nat.le_refl _) _).trans (hb.mono (by simp))).alloc (by omega) _).alloc (by simp; omega) _
  case round =>
    obtain ⟨k, hk, rfl, hn, hg, hr, hsz, hbel⟩ := hrel
    clear hrow hb m1 m2
    by_cases hk13 : k < 13
    · obtain ⟨v1, c1⟩ := hn.there k hk13
      obtain ⟨v2, c2⟩ := hg.there k hk13
      have f1 := hn.free k
      have f2 := hg.free k
      obtain ⟨r1, r2⟩ := hr k hk13
      have HN := hn.step hk13
      have HG := (hg.other w1.heap.size k (.string (nameAt k)) (by omega)).step hk13
      have R1 := (hr.setCell (b' := w1.heap.size) (o := k) (by omega) (.string (nameAt k))).setCell (b' := w1.heap.size + 1) (o := k) (by omega) (.bool (fl.getD k false))
      have R2 := (hbel.setCell (p := ⟨w1.heap.size, k, none⟩) (by simp; omega) (.string (nameAt k))).setCell (p := ⟨w1.heap.size + 1, k, none⟩) (by simp; omega) (.bool (fl.getD k false))
      have R3 := HN.other (w1.heap.size + 1) k (.bool (fl.getD k false)) (by omega)
      have X : Hid _ := And.intro HG (And.intro R1 (And.intro R2 R3))
      have HS : Hid _ := hsz
      clear hn hg hr HN HG R1 R2 R3 hsz
      generalize hnk : nameAt k = nk at *
      generalize hfk : fl.getD k false = fk at *
      go_wp2
      obtain ⟨HG, R1, R2, R3⟩ := X.out
      exact ⟨⟨k + 1, by omega, by go_num, R3, HG, R1, by simp [HS.out], R2⟩, by simp [intOf]; omega⟩
    · obtain rfl : k = 13 := by omega
      have X : Hid _ := And.intro hn.got hg.got
      have HS : Hid _ := hsz
      clear hr hn hg hsz
      go_wp2
      go_ret2
      obtain ⟨X1, X2⟩ := X.out
      have := HS.out
      exact ⟨⟨_, _, rfl, by omega, by omega, by omega, by omega, X1, X2⟩, hbel⟩

end Go.Proofs.Qxb6604414a
