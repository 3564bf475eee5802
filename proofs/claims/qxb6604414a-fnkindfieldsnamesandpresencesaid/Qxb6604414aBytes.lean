/-
  THE COUNTERS OF BYTES: each returns some int and turns nothing.
-/
import Derived.Test.Qxb6604414aBase
namespace Go.Proofs.Qxb6604414a
open Go.RowKit

set_option maxHeartbeats 400000 in
theorem add_any (n m : Int) (w : World) :
    Calls Try.prog 10 #[.int .i64 n, .int .i64 m] w fun e w' => RetInt e ∧ w' = w := by
  go_enter Try.func10, Try.ntmps10
  by_cases h1 : 1048576 < n
  · go_wp2
    go_ret
    exact ⟨.mk _, rfl⟩
  · by_cases h2 : 1048576 < m
    · go_wp2
      go_ret
      exact ⟨.mk _, rfl⟩
    · go_wp2
      go_ret
      exact ⟨.mk _, rfl⟩

set_option maxHeartbeats 400000 in
theorem strBytes_any (s : Sl) (w : World) (h : StrsAt w s) :
    Calls Try.prog 11 #[.slice s.a s.len s.cap] w fun e w' => RetInt e ∧ w' = w := by
  have hle := h.le
  have hmx := h.max
  have hel := h.elem
  clear h
  obtain ⟨a, len, cap⟩ := s
  simp only at hle hmx hel ⊢
  unfold maxLen at hmx
  go_enter Try.func11, Try.ntmps11
  by_cases hl : 131072 < len
  · go_wp2
    go_ret
    exact ⟨.mk _, rfl⟩
  · go_wp2
    go_loop [3, 4] (fun n i => ∃ (z : Int) (k : Nat), k ≤ len ∧ i = .int .i64 k ∧ n = .int .i64 z) (fun _ i => len - (intOf i).toNat)
    case atStart => exact ⟨_, 0, Nat.zero_le _, rfl, rfl⟩
    case round =>
      obtain ⟨z, k, hk, rfl, rfl⟩ := hrel
      by_cases hlt : k < len
      · obtain ⟨b, off, rfl, hb, hc⟩ := hel (by omega)
        obtain ⟨s, hs, hsz⟩ := hc k hlt
        clear hel hc
        go_wp2_with (go_at_call 10; refine (add_any _ _ _).mono ?_; rintro e w' ⟨⟨z', rfl⟩, rfl⟩)
        go_round
        case rel => exact ⟨z', k + 1, by omega, by go_num, rfl⟩
        case measure => simp [intOf]; omega
      · clear hel
        go_wp2
        go_ret
        exact ⟨.mk _, rfl⟩

set_option maxHeartbeats 400000 in
theorem itBytes_any (s : Sl) (w : World) (h : ItsAt w s) :
    Calls Try.prog 51 #[.slice s.a s.len s.cap] w fun e w' => RetInt e ∧ w' = w := by
  have hle := h.le
  have hmx := h.max
  have hel := h.elem
  clear h
  obtain ⟨a, len, cap⟩ := s
  simp only at hle hmx hel ⊢
  unfold maxLen at hmx
  go_enter Try.func51, Try.ntmps51
  by_cases hl : 131072 < len
  · go_wp2
    go_ret
    exact ⟨.mk _, rfl⟩
  · go_wp2
    go_loop [3, 4] (fun n i => ∃ (z : Int) (k : Nat), k ≤ len ∧ i = .int .i64 k ∧ n = .int .i64 z) (fun _ i => len - (intOf i).toNat)
    case atStart => exact ⟨_, 0, Nat.zero_le _, rfl, rfl⟩
    case round =>
      obtain ⟨z, k, hk, rfl, rfl⟩ := hrel
      by_cases hlt : k < len
      · obtain ⟨b, off, rfl, hb, hc⟩ := hel (by omega)
        obtain ⟨s, t, hs, ht, hsz, htz⟩ := hc k hlt
        clear hel hc
        go_wp2_with (go_at_call 10; refine (add_any _ _ _).mono ?_; rintro e w' ⟨⟨z', rfl⟩, rfl⟩)
        go_round
        case rel => exact ⟨_, k + 1, by omega, by go_num, rfl⟩
        case measure => simp [intOf]; omega
      · clear hel
        go_wp2
        go_ret
        exact ⟨.mk _, rfl⟩

set_option maxHeartbeats 400000 in
theorem optBytes_any (s : Sl) (w : World) (h : OptsAt w s) :
    Calls Try.prog 50 #[.slice s.a s.len s.cap] w fun e w' => RetInt e ∧ w' = w := by
  have hle := h.le
  have hmx := h.max
  have hel := h.elem
  clear h
  obtain ⟨a, len, cap⟩ := s
  simp only at hle hmx hel ⊢
  unfold maxLen at hmx
  go_enter Try.func50, Try.ntmps50
  by_cases hl : 131072 < len
  · go_wp2
    go_ret
    exact ⟨.mk _, rfl⟩
  · go_wp2
    go_loop [3, 4] (fun n i => ∃ (z : Int) (k : Nat), k ≤ len ∧ i = .int .i64 k ∧ n = .int .i64 z) (fun _ i => len - (intOf i).toNat)
    case atStart => exact ⟨_, 0, Nat.zero_le _, rfl, rfl⟩
    case round =>
      obtain ⟨z, k, hk, rfl, rfl⟩ := hrel
      by_cases hlt : k < len
      · obtain ⟨b, off, rfl, hb, hc⟩ := hel (by omega)
        obtain ⟨s, t, _, hs, ht, _, hsz, htz⟩ := hc k hlt
        clear hel hc
        go_wp2_with (go_at_call 10; refine (add_any _ _ _).mono ?_; rintro e w' ⟨⟨z', rfl⟩, rfl⟩)
        go_round
        case rel => exact ⟨_, k + 1, by omega, by go_num, rfl⟩
        case measure => simp [intOf]; omega
      · clear hel
        go_wp2
        go_ret
        exact ⟨.mk _, rfl⟩

end Go.Proofs.Qxb6604414a
