/-
  'zzJB1Cleared', 'zzJB1SetOne': one field turned; each index by itself. The struct's cells are a variable.
-/
import Derived.Test.Qxb6604414aKF
import Derived.Test.Qxb6604414aQBytes
import Derived.Lib.SlBytesConst
import Derived.Deep.DeepCutAuto
namespace Go.Proofs.Qxb6604414a
open Go.RowKit

/-- the zero input -/
def zeroI : Array Value := #[.string ⟨#[]⟩, .string ⟨#[]⟩, .string ⟨#[]⟩, .slice none 0 0, .slice none 0 0, .string ⟨#[]⟩, .string ⟨#[]⟩, .slice none 0 0, .slice none 0 0, .slice none 0 0, .slice none 0 0, .slice none 0 0, .slice none 0 0, .slice none 0 0, .pointer none, .string ⟨#[]⟩, .bool false]

theorem heap3a (w : World) (a b c : Obj) : (((w.alloc a).alloc b).alloc c).heap[w.heap.size]? = some a := by
  simp only [World.alloc, Array.getElem?_push, Array.size_push]; rw [if_neg (by omega), if_neg (by omega), if_pos trivial]
theorem heap3b (w : World) (a b c : Obj) : (((w.alloc a).alloc b).alloc c).heap[w.heap.size + 1]? = some b := by
  simp only [World.alloc, Array.getElem?_push, Array.size_push]; rw [if_neg (by omega), if_pos trivial]
theorem below2 (w : World) (a b : Obj) : Below w.heap.size w ((w.alloc a).alloc b) := ((Below.refl _ _).alloc (Nat.le_refl _) _).alloc (by simp) _
theorem below3 (w : World) (a b c : Obj) : Below w.heap.size w (((w.alloc a).alloc b).alloc c) := (below2 w a b).alloc (by simp; omega) _

theorem below_setRow {B : Nat} {a w : World} (h : Below B a w) {g : Nat} (hg : B ≤ g) (cs : Array Value) : Below B a (w.setRow g cs) :=
  h.trans ⟨rfl, rfl, rfl, by simp, fun k hk => setRow_other _ _ _ _ (by omega)⟩

/-- []byte of a constant -/
theorem conv40 (w : World) (o1 o2 : Obj) (C : Array Value) (n c : Nat) :
    (convert 40 40 (.slice (some ⟨w.heap.size + 1 + 1, 0, none⟩) n c)).run Try.prog (((w.alloc o1).alloc o2).alloc (.cells C 5)) = .ok (.slice (some ⟨w.heap.size + 1 + 1, 0, none⟩) n c) (((w.alloc o1).alloc o2).alloc (.cells C 5 (C.size, C.size + 1))) := by
  have := Lib.run_convert_bytes_const (P := Try.prog) ((w.alloc o1).alloc o2) 40 5 C n c Try.underlying40 Try.underlying5
  simpa using this


set_option maxHeartbeats 1000000 in
set_option maxRecDepth 100000 in
theorem clr0 (cs cs' : Array Value) (w : World) (hc' : cs'.size = 17) (v : Value) (hv : cs[3]? = some v) (he : cs.setIfInBounds 3 (.slice none 0 0) = cs') (ha : cs'.all (·.oneCell') = true) :
    Calls Try.prog 37 #[.agg cs, .int .i64 0] w fun e w' => e = .returned (.agg cs') ∧ Below w.heap.size w w' := by
  go_enter Try.func37, Try.ntmps37
  go_upto_region 27 with (fail)
  go_wp2_with (first
    | (refine wpList_load_row rfl 45 _ rfl w.heap.size rfl 45 cs' (0, 0) _ (heap_alloc2_old w _ _) Try.underlying45 rfl (by rw [hc']; kernel_rfl) ?_)
    | (refine wpList_store_row rfl 45 _ _ rfl (w.heap.size + 1) cs' rfl rfl 45 zeroI (heap_alloc2_new w _ _) (by rw [hc']; kernel_rfl) (by rw [hc']; rfl) ha ?_))
  refine bodyPost_ret (v := .agg cs') (results_cell_row Try.results37 _ _ (w.heap.size + 1) 45 cs' (0, 0) _ rfl (setRow_heap _ _ zeroI cs' _ _ (heap_alloc2_new w _ _)) Try.underlying45 rfl (by rw [hc']; kernel_rfl)) rfl ⟨rfl, below_setRow (below2 w _ _) (by omega) cs'⟩

set_option maxHeartbeats 1000000 in
set_option maxRecDepth 100000 in
theorem clr1 (cs cs' : Array Value) (w : World) (hc' : cs'.size = 17) (v : Value) (hv : cs[4]? = some v) (he : cs.setIfInBounds 4 (.slice (some ⟨w.heap.size + 1 + 1, 0, none⟩) 4 4) = cs') (ha : cs'.all (·.oneCell') = true) :
    Calls Try.prog 37 #[.agg cs, .int .i64 1] w fun e w' => e = .returned (.agg cs') ∧ Below w.heap.size w w' ∧ BytesAt w' ⟨some ⟨w.heap.size + 1 + 1, 0, none⟩, 4, 4⟩ [110, 117, 108, 108] := by
  have kc := conv40 w
  go_enter Try.func37, Try.ntmps37
  go_upto_region 27 with (fail)
  go_wp2_with (first
    | (refine wpList_load_row rfl 45 _ rfl w.heap.size rfl 45 cs' (0, 0) _ (heap3a w _ _ _) Try.underlying45 rfl (by rw [hc']; kernel_rfl) ?_)
    | (refine wpList_store_row rfl 45 _ _ rfl (w.heap.size + 1) cs' rfl rfl 45 zeroI (heap3b w _ _ _) (by rw [hc']; kernel_rfl) (by rw [hc']; rfl) ha ?_))
  refine bodyPost_ret (v := .agg cs') (results_cell_row Try.results37 _ _ (w.heap.size + 1) 45 cs' (0, 0) _ rfl (setRow_heap _ _ zeroI cs' _ _ (heap3b w _ _ _)) Try.underlying45 rfl (by rw [hc']; kernel_rfl)) rfl ⟨rfl, below_setRow (below3 w _ _ _) (by omega) cs', ?_⟩
  refine ⟨Nat.le_refl _, by simp [maxLen], rfl, fun _ => ⟨_, 0, rfl, by simp, fun i hi => ?_⟩⟩
  rw [cell_setRow_other _ _ _ _ (by simp)]
  have hq : ∀ (a b : Obj) (C : Array Value) (fr : Nat × Nat), (((w.alloc a).alloc b).alloc (.cells C 5 fr)).cell? ⟨w.heap.size + 1 + 1, i, none⟩ = C[i]? := fun a b C fr => cell_of_row _ _ _ _ 5 fr (by simpa using heap_alloc_new ((w.alloc a).alloc b) (.cells C 5 fr))
  rw [Nat.zero_add, hq]
  match i, hi with
  | 0, _ => rfl
  | 1, _ => rfl
  | 2, _ => rfl
  | 3, _ => rfl

set_option maxHeartbeats 1000000 in
set_option maxRecDepth 100000 in
theorem clr2 (cs cs' : Array Value) (w : World) (hc' : cs'.size = 17) (v : Value) (hv : cs[5]? = some v) (he : cs.setIfInBounds 5 (.string ⟨#[]⟩) = cs') (ha : cs'.all (·.oneCell') = true) :
    Calls Try.prog 37 #[.agg cs, .int .i64 2] w fun e w' => e = .returned (.agg cs') ∧ Below w.heap.size w w' := by
  go_enter Try.func37, Try.ntmps37
  go_upto_region 27 with (fail)
  go_wp2_with (first
    | (refine wpList_load_row rfl 45 _ rfl w.heap.size rfl 45 cs' (0, 0) _ (heap_alloc2_old w _ _) Try.underlying45 rfl (by rw [hc']; kernel_rfl) ?_)
    | (refine wpList_store_row rfl 45 _ _ rfl (w.heap.size + 1) cs' rfl rfl 45 zeroI (heap_alloc2_new w _ _) (by rw [hc']; kernel_rfl) (by rw [hc']; rfl) ha ?_))
  refine bodyPost_ret (v := .agg cs') (results_cell_row Try.results37 _ _ (w.heap.size + 1) 45 cs' (0, 0) _ rfl (setRow_heap _ _ zeroI cs' _ _ (heap_alloc2_new w _ _)) Try.underlying45 rfl (by rw [hc']; kernel_rfl)) rfl ⟨rfl, below_setRow (below2 w _ _) (by omega) cs'⟩

set_option maxHeartbeats 1000000 in
set_option maxRecDepth 100000 in
theorem clr3 (cs cs' : Array Value) (w : World) (hc' : cs'.size = 17) (v : Value) (hv : cs[6]? = some v) (he : cs.setIfInBounds 6 (.string ⟨#[]⟩) = cs') (ha : cs'.all (·.oneCell') = true) :
    Calls Try.prog 37 #[.agg cs, .int .i64 3] w fun e w' => e = .returned (.agg cs') ∧ Below w.heap.size w w' := by
  go_enter Try.func37, Try.ntmps37
  go_upto_region 27 with (fail)
  go_wp2_with (first
    | (refine wpList_load_row rfl 45 _ rfl w.heap.size rfl 45 cs' (0, 0) _ (heap_alloc2_old w _ _) Try.underlying45 rfl (by rw [hc']; kernel_rfl) ?_)
    | (refine wpList_store_row rfl 45 _ _ rfl (w.heap.size + 1) cs' rfl rfl 45 zeroI (heap_alloc2_new w _ _) (by rw [hc']; kernel_rfl) (by rw [hc']; rfl) ha ?_))
  refine bodyPost_ret (v := .agg cs') (results_cell_row Try.results37 _ _ (w.heap.size + 1) 45 cs' (0, 0) _ rfl (setRow_heap _ _ zeroI cs' _ _ (heap_alloc2_new w _ _)) Try.underlying45 rfl (by rw [hc']; kernel_rfl)) rfl ⟨rfl, below_setRow (below2 w _ _) (by omega) cs'⟩

set_option maxHeartbeats 1000000 in
set_option maxRecDepth 100000 in
theorem clr4 (cs cs' : Array Value) (w : World) (hc' : cs'.size = 17) (v : Value) (hv : cs[7]? = some v) (he : cs.setIfInBounds 7 (.slice none 0 0) = cs') (ha : cs'.all (·.oneCell') = true) :
    Calls Try.prog 37 #[.agg cs, .int .i64 4] w fun e w' => e = .returned (.agg cs') ∧ Below w.heap.size w w' := by
  go_enter Try.func37, Try.ntmps37
  go_upto_region 27 with (fail)
  go_wp2_with (first
    | (refine wpList_load_row rfl 45 _ rfl w.heap.size rfl 45 cs' (0, 0) _ (heap_alloc2_old w _ _) Try.underlying45 rfl (by rw [hc']; kernel_rfl) ?_)
    | (refine wpList_store_row rfl 45 _ _ rfl (w.heap.size + 1) cs' rfl rfl 45 zeroI (heap_alloc2_new w _ _) (by rw [hc']; kernel_rfl) (by rw [hc']; rfl) ha ?_))
  refine bodyPost_ret (v := .agg cs') (results_cell_row Try.results37 _ _ (w.heap.size + 1) 45 cs' (0, 0) _ rfl (setRow_heap _ _ zeroI cs' _ _ (heap_alloc2_new w _ _)) Try.underlying45 rfl (by rw [hc']; kernel_rfl)) rfl ⟨rfl, below_setRow (below2 w _ _) (by omega) cs'⟩

set_option maxHeartbeats 1000000 in
set_option maxRecDepth 100000 in
theorem clr5 (cs cs' : Array Value) (w : World) (hc' : cs'.size = 17) (v : Value) (hv : cs[8]? = some v) (he : cs.setIfInBounds 8 (.slice none 0 0) = cs') (ha : cs'.all (·.oneCell') = true) :
    Calls Try.prog 37 #[.agg cs, .int .i64 5] w fun e w' => e = .returned (.agg cs') ∧ Below w.heap.size w w' := by
  go_enter Try.func37, Try.ntmps37
  go_upto_region 27 with (fail)
  go_wp2_with (first
    | (refine wpList_load_row rfl 45 _ rfl w.heap.size rfl 45 cs' (0, 0) _ (heap_alloc2_old w _ _) Try.underlying45 rfl (by rw [hc']; kernel_rfl) ?_)
    | (refine wpList_store_row rfl 45 _ _ rfl (w.heap.size + 1) cs' rfl rfl 45 zeroI (heap_alloc2_new w _ _) (by rw [hc']; kernel_rfl) (by rw [hc']; rfl) ha ?_))
  refine bodyPost_ret (v := .agg cs') (results_cell_row Try.results37 _ _ (w.heap.size + 1) 45 cs' (0, 0) _ rfl (setRow_heap _ _ zeroI cs' _ _ (heap_alloc2_new w _ _)) Try.underlying45 rfl (by rw [hc']; kernel_rfl)) rfl ⟨rfl, below_setRow (below2 w _ _) (by omega) cs'⟩

set_option maxHeartbeats 1000000 in
set_option maxRecDepth 100000 in
theorem clr6 (cs cs' : Array Value) (w : World) (hc' : cs'.size = 17) (v : Value) (hv : cs[9]? = some v) (he : cs.setIfInBounds 9 (.slice none 0 0) = cs') (ha : cs'.all (·.oneCell') = true) :
    Calls Try.prog 37 #[.agg cs, .int .i64 6] w fun e w' => e = .returned (.agg cs') ∧ Below w.heap.size w w' := by
  go_enter Try.func37, Try.ntmps37
  go_upto_region 27 with (fail)
  go_wp2_with (first
    | (refine wpList_load_row rfl 45 _ rfl w.heap.size rfl 45 cs' (0, 0) _ (heap_alloc2_old w _ _) Try.underlying45 rfl (by rw [hc']; kernel_rfl) ?_)
    | (refine wpList_store_row rfl 45 _ _ rfl (w.heap.size + 1) cs' rfl rfl 45 zeroI (heap_alloc2_new w _ _) (by rw [hc']; kernel_rfl) (by rw [hc']; rfl) ha ?_))
  refine bodyPost_ret (v := .agg cs') (results_cell_row Try.results37 _ _ (w.heap.size + 1) 45 cs' (0, 0) _ rfl (setRow_heap _ _ zeroI cs' _ _ (heap_alloc2_new w _ _)) Try.underlying45 rfl (by rw [hc']; kernel_rfl)) rfl ⟨rfl, below_setRow (below2 w _ _) (by omega) cs'⟩

set_option maxHeartbeats 1000000 in
set_option maxRecDepth 100000 in
theorem clr7 (cs cs' : Array Value) (w : World) (hc' : cs'.size = 17) (v : Value) (hv : cs[10]? = some v) (he : cs.setIfInBounds 10 (.slice none 0 0) = cs') (ha : cs'.all (·.oneCell') = true) :
    Calls Try.prog 37 #[.agg cs, .int .i64 7] w fun e w' => e = .returned (.agg cs') ∧ Below w.heap.size w w' := by
  go_enter Try.func37, Try.ntmps37
  go_upto_region 27 with (fail)
  go_wp2_with (first
    | (refine wpList_load_row rfl 45 _ rfl w.heap.size rfl 45 cs' (0, 0) _ (heap_alloc2_old w _ _) Try.underlying45 rfl (by rw [hc']; kernel_rfl) ?_)
    | (refine wpList_store_row rfl 45 _ _ rfl (w.heap.size + 1) cs' rfl rfl 45 zeroI (heap_alloc2_new w _ _) (by rw [hc']; kernel_rfl) (by rw [hc']; rfl) ha ?_))
  refine bodyPost_ret (v := .agg cs') (results_cell_row Try.results37 _ _ (w.heap.size + 1) 45 cs' (0, 0) _ rfl (setRow_heap _ _ zeroI cs' _ _ (heap_alloc2_new w _ _)) Try.underlying45 rfl (by rw [hc']; kernel_rfl)) rfl ⟨rfl, below_setRow (below2 w _ _) (by omega) cs'⟩

set_option maxHeartbeats 1000000 in
set_option maxRecDepth 100000 in
theorem clr8 (cs cs' : Array Value) (w : World) (hc' : cs'.size = 17) (v : Value) (hv : cs[11]? = some v) (he : cs.setIfInBounds 11 (.slice none 0 0) = cs') (ha : cs'.all (·.oneCell') = true) :
    Calls Try.prog 37 #[.agg cs, .int .i64 8] w fun e w' => e = .returned (.agg cs') ∧ Below w.heap.size w w' := by
  go_enter Try.func37, Try.ntmps37
  go_upto_region 27 with (fail)
  go_wp2_with (first
    | (refine wpList_load_row rfl 45 _ rfl w.heap.size rfl 45 cs' (0, 0) _ (heap_alloc2_old w _ _) Try.underlying45 rfl (by rw [hc']; kernel_rfl) ?_)
    | (refine wpList_store_row rfl 45 _ _ rfl (w.heap.size + 1) cs' rfl rfl 45 zeroI (heap_alloc2_new w _ _) (by rw [hc']; kernel_rfl) (by rw [hc']; rfl) ha ?_))
  refine bodyPost_ret (v := .agg cs') (results_cell_row Try.results37 _ _ (w.heap.size + 1) 45 cs' (0, 0) _ rfl (setRow_heap _ _ zeroI cs' _ _ (heap_alloc2_new w _ _)) Try.underlying45 rfl (by rw [hc']; kernel_rfl)) rfl ⟨rfl, below_setRow (below2 w _ _) (by omega) cs'⟩

set_option maxHeartbeats 1000000 in
set_option maxRecDepth 100000 in
theorem clr9 (cs cs' : Array Value) (w : World) (hc' : cs'.size = 17) (v : Value) (hv : cs[12]? = some v) (he : cs.setIfInBounds 12 (.slice none 0 0) = cs') (ha : cs'.all (·.oneCell') = true) :
    Calls Try.prog 37 #[.agg cs, .int .i64 9] w fun e w' => e = .returned (.agg cs') ∧ Below w.heap.size w w' := by
  go_enter Try.func37, Try.ntmps37
  go_upto_region 27 with (fail)
  go_wp2_with (first
    | (refine wpList_load_row rfl 45 _ rfl w.heap.size rfl 45 cs' (0, 0) _ (heap_alloc2_old w _ _) Try.underlying45 rfl (by rw [hc']; kernel_rfl) ?_)
    | (refine wpList_store_row rfl 45 _ _ rfl (w.heap.size + 1) cs' rfl rfl 45 zeroI (heap_alloc2_new w _ _) (by rw [hc']; kernel_rfl) (by rw [hc']; rfl) ha ?_))
  refine bodyPost_ret (v := .agg cs') (results_cell_row Try.results37 _ _ (w.heap.size + 1) 45 cs' (0, 0) _ rfl (setRow_heap _ _ zeroI cs' _ _ (heap_alloc2_new w _ _)) Try.underlying45 rfl (by rw [hc']; kernel_rfl)) rfl ⟨rfl, below_setRow (below2 w _ _) (by omega) cs'⟩

set_option maxHeartbeats 1000000 in
set_option maxRecDepth 100000 in
theorem clr10 (cs cs' : Array Value) (w : World) (hc' : cs'.size = 17) (v : Value) (hv : cs[14]? = some v) (he : cs.setIfInBounds 14 (.pointer none) = cs') (ha : cs'.all (·.oneCell') = true) :
    Calls Try.prog 37 #[.agg cs, .int .i64 10] w fun e w' => e = .returned (.agg cs') ∧ Below w.heap.size w w' := by
  go_enter Try.func37, Try.ntmps37
  go_upto_region 27 with (fail)
  go_wp2_with (first
    | (refine wpList_load_row rfl 45 _ rfl w.heap.size rfl 45 cs' (0, 0) _ (heap_alloc2_old w _ _) Try.underlying45 rfl (by rw [hc']; kernel_rfl) ?_)
    | (refine wpList_store_row rfl 45 _ _ rfl (w.heap.size + 1) cs' rfl rfl 45 zeroI (heap_alloc2_new w _ _) (by rw [hc']; kernel_rfl) (by rw [hc']; rfl) ha ?_))
  refine bodyPost_ret (v := .agg cs') (results_cell_row Try.results37 _ _ (w.heap.size + 1) 45 cs' (0, 0) _ rfl (setRow_heap _ _ zeroI cs' _ _ (heap_alloc2_new w _ _)) Try.underlying45 rfl (by rw [hc']; kernel_rfl)) rfl ⟨rfl, below_setRow (below2 w _ _) (by omega) cs'⟩

set_option maxHeartbeats 1000000 in
set_option maxRecDepth 100000 in
theorem clr11 (cs cs' : Array Value) (w : World) (hc' : cs'.size = 17) (v : Value) (hv : cs[15]? = some v) (he : cs.setIfInBounds 15 (.string ⟨#[]⟩) = cs') (ha : cs'.all (·.oneCell') = true) :
    Calls Try.prog 37 #[.agg cs, .int .i64 11] w fun e w' => e = .returned (.agg cs') ∧ Below w.heap.size w w' := by
  go_enter Try.func37, Try.ntmps37
  go_upto_region 27 with (fail)
  go_wp2_with (first
    | (refine wpList_load_row rfl 45 _ rfl w.heap.size rfl 45 cs' (0, 0) _ (heap_alloc2_old w _ _) Try.underlying45 rfl (by rw [hc']; kernel_rfl) ?_)
    | (refine wpList_store_row rfl 45 _ _ rfl (w.heap.size + 1) cs' rfl rfl 45 zeroI (heap_alloc2_new w _ _) (by rw [hc']; kernel_rfl) (by rw [hc']; rfl) ha ?_))
  refine bodyPost_ret (v := .agg cs') (results_cell_row Try.results37 _ _ (w.heap.size + 1) 45 cs' (0, 0) _ rfl (setRow_heap _ _ zeroI cs' _ _ (heap_alloc2_new w _ _)) Try.underlying45 rfl (by rw [hc']; kernel_rfl)) rfl ⟨rfl, below_setRow (below2 w _ _) (by omega) cs'⟩

set_option maxHeartbeats 1000000 in
set_option maxRecDepth 100000 in
theorem clr12 (cs cs' : Array Value) (w : World) (hc' : cs'.size = 17) (v : Value) (hv : cs[16]? = some v) (he : cs.setIfInBounds 16 (.bool false) = cs') (ha : cs'.all (·.oneCell') = true) :
    Calls Try.prog 37 #[.agg cs, .int .i64 12] w fun e w' => e = .returned (.agg cs') ∧ Below w.heap.size w w' := by
  go_enter Try.func37, Try.ntmps37
  go_upto_region 27 with (fail)
  go_wp2_with (first
    | (refine wpList_load_row rfl 45 _ rfl w.heap.size rfl 45 cs' (0, 0) _ (heap_alloc2_old w _ _) Try.underlying45 rfl (by rw [hc']; kernel_rfl) ?_)
    | (refine wpList_store_row rfl 45 _ _ rfl (w.heap.size + 1) cs' rfl rfl 45 zeroI (heap_alloc2_new w _ _) (by rw [hc']; kernel_rfl) (by rw [hc']; rfl) ha ?_))
  refine bodyPost_ret (v := .agg cs') (results_cell_row Try.results37 _ _ (w.heap.size + 1) 45 cs' (0, 0) _ rfl (setRow_heap _ _ zeroI cs' _ _ (heap_alloc2_new w _ _)) Try.underlying45 rfl (by rw [hc']; kernel_rfl)) rfl ⟨rfl, below_setRow (below2 w _ _) (by omega) cs'⟩

set_option maxHeartbeats 1000000 in
set_option maxRecDepth 100000 in
theorem one0 (cs cs' : Array Value) (w : World) (hc' : cs'.size = 17) (v : Value) (hv : cs[3]? = some v) (he : cs.setIfInBounds 3 (.slice (some ⟨w.heap.size + 1 + 1, 0, none⟩) 0 0) = cs') (ha : cs'.all (·.oneCell') = true) :
    Calls Try.prog 38 #[.agg cs, .int .i64 0] w fun e w' => e = .returned (.agg cs') ∧ Below w.heap.size w w' := by
  go_enter Try.func38, Try.ntmps38
  go_upto_region 27 with (fail)
  go_wp2_with (first
    | (refine wpList_load_row rfl 45 _ rfl w.heap.size rfl 45 cs' (0, 0) _ (heap3a w _ _ _) Try.underlying45 rfl (by rw [hc']; kernel_rfl) ?_)
    | (refine wpList_store_row rfl 45 _ _ rfl (w.heap.size + 1) cs' rfl rfl 45 zeroI (heap3b w _ _ _) (by rw [hc']; kernel_rfl) (by rw [hc']; rfl) ha ?_))
  refine bodyPost_ret (v := .agg cs') (results_cell_row Try.results38 _ _ (w.heap.size + 1) 45 cs' (0, 0) _ rfl (setRow_heap _ _ zeroI cs' _ _ (heap3b w _ _ _)) Try.underlying45 rfl (by rw [hc']; kernel_rfl)) rfl ⟨rfl, below_setRow (below3 w _ _ _) (by omega) cs'⟩

set_option maxHeartbeats 1000000 in
set_option maxRecDepth 100000 in
theorem one1 (cs cs' : Array Value) (w : World) (hc' : cs'.size = 17) (v : Value) (hv : cs[4]? = some v) (he : cs.setIfInBounds 4 (.slice (some ⟨w.heap.size + 1 + 1, 0, none⟩) 1 1) = cs') (ha : cs'.all (·.oneCell') = true) :
    Calls Try.prog 38 #[.agg cs, .int .i64 1] w fun e w' => e = .returned (.agg cs') ∧ Below w.heap.size w w' ∧ BytesAt w' ⟨some ⟨w.heap.size + 1 + 1, 0, none⟩, 1, 1⟩ [49] := by
  have kc := conv40 w
  go_enter Try.func38, Try.ntmps38
  go_upto_region 27 with (fail)
  go_wp2_with (first
    | (refine wpList_load_row rfl 45 _ rfl w.heap.size rfl 45 cs' (0, 0) _ (heap3a w _ _ _) Try.underlying45 rfl (by rw [hc']; kernel_rfl) ?_)
    | (refine wpList_store_row rfl 45 _ _ rfl (w.heap.size + 1) cs' rfl rfl 45 zeroI (heap3b w _ _ _) (by rw [hc']; kernel_rfl) (by rw [hc']; rfl) ha ?_))
  refine bodyPost_ret (v := .agg cs') (results_cell_row Try.results38 _ _ (w.heap.size + 1) 45 cs' (0, 0) _ rfl (setRow_heap _ _ zeroI cs' _ _ (heap3b w _ _ _)) Try.underlying45 rfl (by rw [hc']; kernel_rfl)) rfl ⟨rfl, below_setRow (below3 w _ _ _) (by omega) cs', ?_⟩
  refine ⟨Nat.le_refl _, by simp [maxLen], rfl, fun _ => ⟨_, 0, rfl, by simp, fun i hi => ?_⟩⟩
  rw [cell_setRow_other _ _ _ _ (by simp)]
  have hq : ∀ (a b : Obj) (C : Array Value) (fr : Nat × Nat), (((w.alloc a).alloc b).alloc (.cells C 5 fr)).cell? ⟨w.heap.size + 1 + 1, i, none⟩ = C[i]? := fun a b C fr => cell_of_row _ _ _ _ 5 fr (by simpa using heap_alloc_new ((w.alloc a).alloc b) (.cells C 5 fr))
  rw [Nat.zero_add, hq]
  match i, hi with
  | 0, _ => rfl

set_option maxHeartbeats 1000000 in
set_option maxRecDepth 100000 in
theorem one2 (cs cs' : Array Value) (w : World) (hc' : cs'.size = 17) (v : Value) (hv : cs[5]? = some v) (he : cs.setIfInBounds 5 (.string ⟨#[49]⟩) = cs') (ha : cs'.all (·.oneCell') = true) :
    Calls Try.prog 38 #[.agg cs, .int .i64 2] w fun e w' => e = .returned (.agg cs') ∧ Below w.heap.size w w' := by
  go_enter Try.func38, Try.ntmps38
  go_upto_region 27 with (fail)
  go_wp2_with (first
    | (refine wpList_load_row rfl 45 _ rfl w.heap.size rfl 45 cs' (0, 0) _ (heap_alloc2_old w _ _) Try.underlying45 rfl (by rw [hc']; kernel_rfl) ?_)
    | (refine wpList_store_row rfl 45 _ _ rfl (w.heap.size + 1) cs' rfl rfl 45 zeroI (heap_alloc2_new w _ _) (by rw [hc']; kernel_rfl) (by rw [hc']; rfl) ha ?_))
  refine bodyPost_ret (v := .agg cs') (results_cell_row Try.results38 _ _ (w.heap.size + 1) 45 cs' (0, 0) _ rfl (setRow_heap _ _ zeroI cs' _ _ (heap_alloc2_new w _ _)) Try.underlying45 rfl (by rw [hc']; kernel_rfl)) rfl ⟨rfl, below_setRow (below2 w _ _) (by omega) cs'⟩

set_option maxHeartbeats 1000000 in
set_option maxRecDepth 100000 in
theorem one3 (cs cs' : Array Value) (w : World) (hc' : cs'.size = 17) (v : Value) (hv : cs[6]? = some v) (he : cs.setIfInBounds 6 (.string ⟨#[49]⟩) = cs') (ha : cs'.all (·.oneCell') = true) :
    Calls Try.prog 38 #[.agg cs, .int .i64 3] w fun e w' => e = .returned (.agg cs') ∧ Below w.heap.size w w' := by
  go_enter Try.func38, Try.ntmps38
  go_upto_region 27 with (fail)
  go_wp2_with (first
    | (refine wpList_load_row rfl 45 _ rfl w.heap.size rfl 45 cs' (0, 0) _ (heap_alloc2_old w _ _) Try.underlying45 rfl (by rw [hc']; kernel_rfl) ?_)
    | (refine wpList_store_row rfl 45 _ _ rfl (w.heap.size + 1) cs' rfl rfl 45 zeroI (heap_alloc2_new w _ _) (by rw [hc']; kernel_rfl) (by rw [hc']; rfl) ha ?_))
  refine bodyPost_ret (v := .agg cs') (results_cell_row Try.results38 _ _ (w.heap.size + 1) 45 cs' (0, 0) _ rfl (setRow_heap _ _ zeroI cs' _ _ (heap_alloc2_new w _ _)) Try.underlying45 rfl (by rw [hc']; kernel_rfl)) rfl ⟨rfl, below_setRow (below2 w _ _) (by omega) cs'⟩

set_option maxHeartbeats 1000000 in
set_option maxRecDepth 100000 in
theorem one4 (cs cs' : Array Value) (w : World) (hc' : cs'.size = 17) (v : Value) (hv : cs[7]? = some v) (he : cs.setIfInBounds 7 (.slice (some ⟨w.heap.size + 1 + 1, 0, none⟩) 0 0) = cs') (ha : cs'.all (·.oneCell') = true) :
    Calls Try.prog 38 #[.agg cs, .int .i64 4] w fun e w' => e = .returned (.agg cs') ∧ Below w.heap.size w w' := by
  go_enter Try.func38, Try.ntmps38
  go_upto_region 27 with (fail)
  go_wp2_with (first
    | (refine wpList_load_row rfl 45 _ rfl w.heap.size rfl 45 cs' (0, 0) _ (heap3a w _ _ _) Try.underlying45 rfl (by rw [hc']; kernel_rfl) ?_)
    | (refine wpList_store_row rfl 45 _ _ rfl (w.heap.size + 1) cs' rfl rfl 45 zeroI (heap3b w _ _ _) (by rw [hc']; kernel_rfl) (by rw [hc']; rfl) ha ?_))
  refine bodyPost_ret (v := .agg cs') (results_cell_row Try.results38 _ _ (w.heap.size + 1) 45 cs' (0, 0) _ rfl (setRow_heap _ _ zeroI cs' _ _ (heap3b w _ _ _)) Try.underlying45 rfl (by rw [hc']; kernel_rfl)) rfl ⟨rfl, below_setRow (below3 w _ _ _) (by omega) cs'⟩

set_option maxHeartbeats 1000000 in
set_option maxRecDepth 100000 in
theorem one5 (cs cs' : Array Value) (w : World) (hc' : cs'.size = 17) (v : Value) (hv : cs[8]? = some v) (he : cs.setIfInBounds 8 (.slice (some ⟨w.heap.size + 1 + 1, 0, none⟩) 0 0) = cs') (ha : cs'.all (·.oneCell') = true) :
    Calls Try.prog 38 #[.agg cs, .int .i64 5] w fun e w' => e = .returned (.agg cs') ∧ Below w.heap.size w w' := by
  go_enter Try.func38, Try.ntmps38
  go_upto_region 27 with (fail)
  go_wp2_with (first
    | (refine wpList_load_row rfl 45 _ rfl w.heap.size rfl 45 cs' (0, 0) _ (heap3a w _ _ _) Try.underlying45 rfl (by rw [hc']; kernel_rfl) ?_)
    | (refine wpList_store_row rfl 45 _ _ rfl (w.heap.size + 1) cs' rfl rfl 45 zeroI (heap3b w _ _ _) (by rw [hc']; kernel_rfl) (by rw [hc']; rfl) ha ?_))
  refine bodyPost_ret (v := .agg cs') (results_cell_row Try.results38 _ _ (w.heap.size + 1) 45 cs' (0, 0) _ rfl (setRow_heap _ _ zeroI cs' _ _ (heap3b w _ _ _)) Try.underlying45 rfl (by rw [hc']; kernel_rfl)) rfl ⟨rfl, below_setRow (below3 w _ _ _) (by omega) cs'⟩

set_option maxHeartbeats 1000000 in
set_option maxRecDepth 100000 in
theorem one6 (cs cs' : Array Value) (w : World) (hc' : cs'.size = 17) (v : Value) (hv : cs[9]? = some v) (he : cs.setIfInBounds 9 (.slice (some ⟨w.heap.size + 1 + 1, 0, none⟩) 0 0) = cs') (ha : cs'.all (·.oneCell') = true) :
    Calls Try.prog 38 #[.agg cs, .int .i64 6] w fun e w' => e = .returned (.agg cs') ∧ Below w.heap.size w w' := by
  go_enter Try.func38, Try.ntmps38
  go_upto_region 27 with (fail)
  go_wp2_with (first
    | (refine wpList_load_row rfl 45 _ rfl w.heap.size rfl 45 cs' (0, 0) _ (heap3a w _ _ _) Try.underlying45 rfl (by rw [hc']; kernel_rfl) ?_)
    | (refine wpList_store_row rfl 45 _ _ rfl (w.heap.size + 1) cs' rfl rfl 45 zeroI (heap3b w _ _ _) (by rw [hc']; kernel_rfl) (by rw [hc']; rfl) ha ?_))
  refine bodyPost_ret (v := .agg cs') (results_cell_row Try.results38 _ _ (w.heap.size + 1) 45 cs' (0, 0) _ rfl (setRow_heap _ _ zeroI cs' _ _ (heap3b w _ _ _)) Try.underlying45 rfl (by rw [hc']; kernel_rfl)) rfl ⟨rfl, below_setRow (below3 w _ _ _) (by omega) cs'⟩

set_option maxHeartbeats 1000000 in
set_option maxRecDepth 100000 in
theorem one7 (cs cs' : Array Value) (w : World) (hc' : cs'.size = 17) (v : Value) (hv : cs[10]? = some v) (he : cs.setIfInBounds 10 (.slice (some ⟨w.heap.size + 1 + 1, 0, none⟩) 0 0) = cs') (ha : cs'.all (·.oneCell') = true) :
    Calls Try.prog 38 #[.agg cs, .int .i64 7] w fun e w' => e = .returned (.agg cs') ∧ Below w.heap.size w w' := by
  go_enter Try.func38, Try.ntmps38
  go_upto_region 27 with (fail)
  go_wp2_with (first
    | (refine wpList_load_row rfl 45 _ rfl w.heap.size rfl 45 cs' (0, 0) _ (heap3a w _ _ _) Try.underlying45 rfl (by rw [hc']; kernel_rfl) ?_)
    | (refine wpList_store_row rfl 45 _ _ rfl (w.heap.size + 1) cs' rfl rfl 45 zeroI (heap3b w _ _ _) (by rw [hc']; kernel_rfl) (by rw [hc']; rfl) ha ?_))
  refine bodyPost_ret (v := .agg cs') (results_cell_row Try.results38 _ _ (w.heap.size + 1) 45 cs' (0, 0) _ rfl (setRow_heap _ _ zeroI cs' _ _ (heap3b w _ _ _)) Try.underlying45 rfl (by rw [hc']; kernel_rfl)) rfl ⟨rfl, below_setRow (below3 w _ _ _) (by omega) cs'⟩

set_option maxHeartbeats 1000000 in
set_option maxRecDepth 100000 in
theorem one8 (cs cs' : Array Value) (w : World) (hc' : cs'.size = 17) (v : Value) (hv : cs[11]? = some v) (he : cs.setIfInBounds 11 (.slice (some ⟨w.heap.size + 1 + 1, 0, none⟩) 0 0) = cs') (ha : cs'.all (·.oneCell') = true) :
    Calls Try.prog 38 #[.agg cs, .int .i64 8] w fun e w' => e = .returned (.agg cs') ∧ Below w.heap.size w w' := by
  go_enter Try.func38, Try.ntmps38
  go_upto_region 27 with (fail)
  go_wp2_with (first
    | (refine wpList_load_row rfl 45 _ rfl w.heap.size rfl 45 cs' (0, 0) _ (heap3a w _ _ _) Try.underlying45 rfl (by rw [hc']; kernel_rfl) ?_)
    | (refine wpList_store_row rfl 45 _ _ rfl (w.heap.size + 1) cs' rfl rfl 45 zeroI (heap3b w _ _ _) (by rw [hc']; kernel_rfl) (by rw [hc']; rfl) ha ?_))
  refine bodyPost_ret (v := .agg cs') (results_cell_row Try.results38 _ _ (w.heap.size + 1) 45 cs' (0, 0) _ rfl (setRow_heap _ _ zeroI cs' _ _ (heap3b w _ _ _)) Try.underlying45 rfl (by rw [hc']; kernel_rfl)) rfl ⟨rfl, below_setRow (below3 w _ _ _) (by omega) cs'⟩

set_option maxHeartbeats 1000000 in
set_option maxRecDepth 100000 in
theorem one9 (cs cs' : Array Value) (w : World) (hc' : cs'.size = 17) (v : Value) (hv : cs[12]? = some v) (he : cs.setIfInBounds 12 (.slice (some ⟨w.heap.size + 1 + 1, 0, none⟩) 0 0) = cs') (ha : cs'.all (·.oneCell') = true) :
    Calls Try.prog 38 #[.agg cs, .int .i64 9] w fun e w' => e = .returned (.agg cs') ∧ Below w.heap.size w w' := by
  go_enter Try.func38, Try.ntmps38
  go_upto_region 27 with (fail)
  go_wp2_with (first
    | (refine wpList_load_row rfl 45 _ rfl w.heap.size rfl 45 cs' (0, 0) _ (heap3a w _ _ _) Try.underlying45 rfl (by rw [hc']; kernel_rfl) ?_)
    | (refine wpList_store_row rfl 45 _ _ rfl (w.heap.size + 1) cs' rfl rfl 45 zeroI (heap3b w _ _ _) (by rw [hc']; kernel_rfl) (by rw [hc']; rfl) ha ?_))
  refine bodyPost_ret (v := .agg cs') (results_cell_row Try.results38 _ _ (w.heap.size + 1) 45 cs' (0, 0) _ rfl (setRow_heap _ _ zeroI cs' _ _ (heap3b w _ _ _)) Try.underlying45 rfl (by rw [hc']; kernel_rfl)) rfl ⟨rfl, below_setRow (below3 w _ _ _) (by omega) cs'⟩

set_option maxHeartbeats 1000000 in
set_option maxRecDepth 100000 in
theorem one10 (cs cs' : Array Value) (w : World) (hc' : cs'.size = 17) (v : Value) (hv : cs[14]? = some v) (he : cs.setIfInBounds 14 (.pointer (some ⟨w.heap.size + 1 + 1, 0, none⟩)) = cs') (ha : cs'.all (·.oneCell') = true) :
    Calls Try.prog 38 #[.agg cs, .int .i64 10] w fun e w' => e = .returned (.agg cs') ∧ Below w.heap.size w w' := by
  go_enter Try.func38, Try.ntmps38
  go_upto_region 27 with (fail)
  go_wp2_with (first
    | (refine wpList_load_row rfl 45 _ rfl w.heap.size rfl 45 cs' (0, 0) _ (heap3a w _ _ _) Try.underlying45 rfl (by rw [hc']; kernel_rfl) ?_)
    | (refine wpList_store_row rfl 45 _ _ rfl (w.heap.size + 1) cs' rfl rfl 45 zeroI (heap3b w _ _ _) (by rw [hc']; kernel_rfl) (by rw [hc']; rfl) ha ?_))
  refine bodyPost_ret (v := .agg cs') (results_cell_row Try.results38 _ _ (w.heap.size + 1) 45 cs' (0, 0) _ rfl (setRow_heap _ _ zeroI cs' _ _ (heap3b w _ _ _)) Try.underlying45 rfl (by rw [hc']; kernel_rfl)) rfl ⟨rfl, below_setRow (below3 w _ _ _) (by omega) cs'⟩

set_option maxHeartbeats 1000000 in
set_option maxRecDepth 100000 in
theorem one11 (cs cs' : Array Value) (w : World) (hc' : cs'.size = 17) (v : Value) (hv : cs[15]? = some v) (he : cs.setIfInBounds 15 (.string ⟨#[49]⟩) = cs') (ha : cs'.all (·.oneCell') = true) :
    Calls Try.prog 38 #[.agg cs, .int .i64 11] w fun e w' => e = .returned (.agg cs') ∧ Below w.heap.size w w' := by
  go_enter Try.func38, Try.ntmps38
  go_upto_region 27 with (fail)
  go_wp2_with (first
    | (refine wpList_load_row rfl 45 _ rfl w.heap.size rfl 45 cs' (0, 0) _ (heap_alloc2_old w _ _) Try.underlying45 rfl (by rw [hc']; kernel_rfl) ?_)
    | (refine wpList_store_row rfl 45 _ _ rfl (w.heap.size + 1) cs' rfl rfl 45 zeroI (heap_alloc2_new w _ _) (by rw [hc']; kernel_rfl) (by rw [hc']; rfl) ha ?_))
  refine bodyPost_ret (v := .agg cs') (results_cell_row Try.results38 _ _ (w.heap.size + 1) 45 cs' (0, 0) _ rfl (setRow_heap _ _ zeroI cs' _ _ (heap_alloc2_new w _ _)) Try.underlying45 rfl (by rw [hc']; kernel_rfl)) rfl ⟨rfl, below_setRow (below2 w _ _) (by omega) cs'⟩

set_option maxHeartbeats 1000000 in
set_option maxRecDepth 100000 in
theorem one12 (cs cs' : Array Value) (w : World) (hc' : cs'.size = 17) (v : Value) (hv : cs[16]? = some v) (he : cs.setIfInBounds 16 (.bool true) = cs') (ha : cs'.all (·.oneCell') = true) :
    Calls Try.prog 38 #[.agg cs, .int .i64 12] w fun e w' => e = .returned (.agg cs') ∧ Below w.heap.size w w' := by
  go_enter Try.func38, Try.ntmps38
  go_upto_region 27 with (fail)
  go_wp2_with (first
    | (refine wpList_load_row rfl 45 _ rfl w.heap.size rfl 45 cs' (0, 0) _ (heap_alloc2_old w _ _) Try.underlying45 rfl (by rw [hc']; kernel_rfl) ?_)
    | (refine wpList_store_row rfl 45 _ _ rfl (w.heap.size + 1) cs' rfl rfl 45 zeroI (heap_alloc2_new w _ _) (by rw [hc']; kernel_rfl) (by rw [hc']; rfl) ha ?_))
  refine bodyPost_ret (v := .agg cs') (results_cell_row Try.results38 _ _ (w.heap.size + 1) 45 cs' (0, 0) _ rfl (setRow_heap _ _ zeroI cs' _ _ (heap_alloc2_new w _ _)) Try.underlying45 rfl (by rw [hc']; kernel_rfl)) rfl ⟨rfl, below_setRow (below2 w _ _) (by omega) cs'⟩

end Go.Proofs.Qxb6604414a

