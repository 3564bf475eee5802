/-
  'zzJB1KindFieldName', 'zzJB1NamesRight', 'zzJB1CorrectVariant'.
-/
import Derived.Test.Qxb6604414aKF
import Derived.Lib.SlBytesConst
import Derived.Deep.QuietTactic
import Derived.BigQuiet
namespace Go.Proofs.Qxb6604414a
open Go.RowKit

set_option maxHeartbeats 1000000 in
theorem fieldName_any (i : Nat) (hi : i < 13) (w : World) : Calls Try.prog 43 #[.int .i64 i] w fun e w' => e = .returned (.string (nameAt i)) ∧ w' = w := by
  match i, hi with
  | 0, _ => go_enter Try.func43, Try.ntmps43; go_wp2; go_ret; exact ⟨rfl, rfl⟩
  | 1, _ => go_enter Try.func43, Try.ntmps43; go_wp2; go_ret; exact ⟨rfl, rfl⟩
  | 2, _ => go_enter Try.func43, Try.ntmps43; go_wp2; go_ret; exact ⟨rfl, rfl⟩
  | 3, _ => go_enter Try.func43, Try.ntmps43; go_wp2; go_ret; exact ⟨rfl, rfl⟩
  | 4, _ => go_enter Try.func43, Try.ntmps43; go_wp2; go_ret; exact ⟨rfl, rfl⟩
  | 5, _ => go_enter Try.func43, Try.ntmps43; go_wp2; go_ret; exact ⟨rfl, rfl⟩
  | 6, _ => go_enter Try.func43, Try.ntmps43; go_wp2; go_ret; exact ⟨rfl, rfl⟩
  | 7, _ => go_enter Try.func43, Try.ntmps43; go_wp2; go_ret; exact ⟨rfl, rfl⟩
  | 8, _ => go_enter Try.func43, Try.ntmps43; go_wp2; go_ret; exact ⟨rfl, rfl⟩
  | 9, _ => go_enter Try.func43, Try.ntmps43; go_wp2; go_ret; exact ⟨rfl, rfl⟩
  | 10, _ => go_enter Try.func43, Try.ntmps43; go_wp2; go_ret; exact ⟨rfl, rfl⟩
  | 11, _ => go_enter Try.func43, Try.ntmps43; go_wp2; go_ret; exact ⟨rfl, rfl⟩
  | 12, _ => go_enter Try.func43, Try.ntmps43; go_wp2; go_ret; exact ⟨rfl, rfl⟩

set_option maxHeartbeats 400000 in
theorem namesRight_any (n : Nat) (w : World) (h : ∀ i, i < 13 → w.cell? ⟨n, i, none⟩ = some (.string (nameAt i))) :
    Calls Try.prog 31 #[.slice (some ⟨n, 0, none⟩) 13 13] w fun e w' => e = .returned (.bool true) ∧ ∃ d, w' = w.drewN d := by
  have H : Hid _ := h
  clear h
  go_enter Try.func31, Try.ntmps31
  go_wp2
  go_loopw [3] (fun i wr => ∃ k : Nat, k ≤ 13 ∧ i = .int .i64 k ∧ ∃ d, wr = w.drewN d) (fun i _ => 13 - (intOf i).toNat)
  case atStart => exact ⟨0, by omega, rfl, 0, rfl⟩
  case round =>
    obtain ⟨k, hk, rfl, hd⟩ := hrel
    have HD : Hid (∃ d, wr = w.drewN d) := hd
    clear hd
    by_cases hk13 : k < 13
    · have hc : wr.cell? ⟨n, k, none⟩ = some (.string (nameAt k)) := by
        obtain ⟨d, rfl⟩ := HD.out
        exact H.out k hk13
      have C : Hid (∀ w, Calls Try.prog 43 #[.int .i64 k] w fun e w' => e = .returned (.string (nameAt k)) ∧ w' = w) := fun w => fieldName_any k hk13 w
      have hg : (k : Int) < 13 := by omega
      generalize nameAt k = nm at hc C
      go_wp2
      go_quiet (first | (go_at_call 43; refine Calls.quiet_of_same (C.out _)))
      go_wp2
      go_roundw
      case rel =>
        obtain ⟨d, rfl⟩ := HD.out
        exact ⟨k + 1, by omega, by go_num, _, World.drewN_drewN _ _ _⟩
      case measure => simp [intOf]; omega
    · go_wp2
      go_ret
      exact ⟨rfl, HD.out⟩

/-- the nine texts of Correct -/
def variant : Nat → List Int
  | 0 => []
  | 1 => [110, 117, 108, 108]
  | 2 => []
  | 3 => [32, 110, 117, 108, 108]
  | 4 => [110, 117, 108]
  | 5 => [78, 85, 76, 76]
  | 6 => [110, 117, 108, 108, 32]
  | 7 => [110, 117, 108, 108, 108]
  | _ => [48]
def given_ : Nat → Bool
  | 0 => false
  | 1 => false
  | _ => true

/-- a text of Correct handed back, with its flag -/
def RetVar (k : Nat) (e : Ending) (w' : World) : Prop := ∃ s : Sl, e = .returned (.tuple #[.slice s.a s.len s.cap, .bool (given_ k)]) ∧ BytesAt w' s (variant k) ∧ (s.a.isSome && !((strOf (variant k)).toList == [110, 117, 108, 108])) = given_ k

theorem conv40_one (w : World) (C : Array Value) (n c : Nat) :
    (convert 40 40 (.slice (some ⟨w.heap.size, 0, none⟩) n c)).run Try.prog (w.alloc (.cells C 5)) = .ok (.slice (some ⟨w.heap.size, 0, none⟩) n c) (w.alloc (.cells C 5 (C.size, C.size + 1))) :=
  Lib.run_convert_bytes_const (P := Try.prog) w 40 5 C n c Try.underlying40 Try.underlying5

theorem bytes_lit (w : World) (C : Array Value) (fr : Nat × Nat) (cb : List Int) (hm : cb.length ≤ maxLen) (h : C = (cb.map (Value.int .u8)).toArray) : BytesAt (w.alloc (.cells C 5 fr)) ⟨some ⟨w.heap.size, 0, none⟩, cb.length, cb.length⟩ cb := by
  subst h
  refine ⟨Nat.le_refl _, hm, rfl, fun _ => ⟨_, 0, rfl, by simp, fun i hi => ?_⟩⟩
  simp only at hi
  rw [Nat.zero_add, cell_of_row _ _ _ _ 5 fr (heap_alloc_new w _)]
  simp [List.getD, hi]

set_option maxHeartbeats 1000000 in
theorem variant_any (k : Nat) (hk : k < 9) (w : World) : Calls Try.prog 35 #[.int .i64 k] w fun e w' => RetVar k e w' ∧ Below w.heap.size w w' := by
  have kc := conv40_one w
  match k, hk with
  | 0, _ =>
    go_enter Try.func35, Try.ntmps35; go_wp2; go_ret2
    exact ⟨⟨⟨none, 0, 0⟩, rfl, ⟨Nat.le_refl _, Nat.zero_le _, rfl, fun h => absurd h (Nat.lt_irrefl 0)⟩, by kernel_rfl⟩, Below.refl _ _⟩
  | 1, _ =>
    go_enter Try.func35, Try.ntmps35; go_wp2; go_ret2
    exact ⟨⟨⟨_, 4, 4⟩, rfl, bytes_lit w _ _ [110, 117, 108, 108] (by simp [maxLen]) rfl, by kernel_rfl⟩, (Below.refl _ _).alloc (Nat.le_refl _) _⟩
  | 2, _ =>
    go_enter Try.func35, Try.ntmps35; go_wp2; go_ret2
    exact ⟨⟨⟨_, 0, 0⟩, rfl, ⟨Nat.le_refl _, Nat.zero_le _, rfl, fun h => absurd h (Nat.lt_irrefl 0)⟩, by kernel_rfl⟩, (Below.refl _ _).alloc (Nat.le_refl _) _⟩
  | 3, _ =>
    go_enter Try.func35, Try.ntmps35; go_wp2; go_ret2
    exact ⟨⟨⟨_, 5, 5⟩, rfl, bytes_lit w _ _ [32, 110, 117, 108, 108] (by simp [maxLen]) rfl, by kernel_rfl⟩, (Below.refl _ _).alloc (Nat.le_refl _) _⟩
  | 4, _ =>
    go_enter Try.func35, Try.ntmps35; go_wp2; go_ret2
    exact ⟨⟨⟨_, 3, 3⟩, rfl, bytes_lit w _ _ [110, 117, 108] (by simp [maxLen]) rfl, by kernel_rfl⟩, (Below.refl _ _).alloc (Nat.le_refl _) _⟩
  | 5, _ =>
    go_enter Try.func35, Try.ntmps35; go_wp2; go_ret2
    exact ⟨⟨⟨_, 4, 4⟩, rfl, bytes_lit w _ _ [78, 85, 76, 76] (by simp [maxLen]) rfl, by kernel_rfl⟩, (Below.refl _ _).alloc (Nat.le_refl _) _⟩
  | 6, _ =>
    go_enter Try.func35, Try.ntmps35; go_wp2; go_ret2
    exact ⟨⟨⟨_, 5, 5⟩, rfl, bytes_lit w _ _ [110, 117, 108, 108, 32] (by simp [maxLen]) rfl, by kernel_rfl⟩, (Below.refl _ _).alloc (Nat.le_refl _) _⟩
  | 7, _ =>
    go_enter Try.func35, Try.ntmps35; go_wp2; go_ret2
    exact ⟨⟨⟨_, 5, 5⟩, rfl, bytes_lit w _ _ [110, 117, 108, 108, 108] (by simp [maxLen]) rfl, by kernel_rfl⟩, (Below.refl _ _).alloc (Nat.le_refl _) _⟩
  | 8, _ =>
    go_enter Try.func35, Try.ntmps35; go_wp2; go_ret2
    exact ⟨⟨⟨_, 1, 1⟩, rfl, bytes_lit w _ _ [48] (by simp [maxLen]) rfl, by kernel_rfl⟩, (Below.refl _ _).alloc (Nat.le_refl _) _⟩

end Go.Proofs.Qxb6604414a
