/-
  'binary.Uvarint', 'cutUvarint', 'ZZcutUvarint'.
-/
import Derived.Test.Qxb6604448aBase
namespace Go.Proofs.Qxb6604448a
open Go.RowKit

def UvPost (zs : List Int) (e : Ending) : Prop :=
  (∃ k, Good zs k ∧ e = .returned (.tuple #[.int .u64 (val (zs.take (k + 1))), .int .i64 (k + 1)])) ∨
  ((∀ k, ¬ Good zs k) ∧ ∃ s : Int, s ≤ 0 ∧ e = .returned (.tuple #[.int .u64 0, .int .i64 s]))

theorem mask127 {c : Int} (h₀ : 0 ≤ c) (h₁ : c ≤ 255) : bits .and .u8 c 127 = c % 128 := bits_mask .u8 8 (by decide) wraps_u8 7 (by decide) c h₀ (by omega)

theorem pow_le (k n : Nat) (h : k ≤ n) : (2 : Int) ^ (7 * k) ≤ 2 ^ (7 * n) := by
  have := Nat.pow_le_pow_right (n := 2) (by decide) (Nat.mul_le_mul_left 7 h)
  exact_mod_cast this

theorem pow_pos7 (k : Nat) : (0 : Int) < 2 ^ (7 * k) := by
  have := Nat.pow_pos (n := 7 * k) (show 0 < 2 by decide)
  exact_mod_cast this

/-- the last group, or one more group -/
theorem uv_val (zs : List Int) (k : Nat) (c d : Int) (hl : k < zs.length) (hc : at_ zs k = c) (hd : d = c % 128) (hk : k ≤ 9) (h1 : k = 9 → d ≤ 1) :
    bits .or .u64 (val (zs.take k)) (IntKind.u64.wrap (d * 2 ^ (7 * k))) = val (zs.take (k + 1)) := by
  have hx := val_nonneg (zs.take k)
  have hx' := val_take_lt zs k
  rw [pow7] at hx'
  have hp := pow_pos7 k
  have hd0 : 0 ≤ d := by omega
  have hb : d * 2 ^ (7 * k) ≤ 9223372036854775808 + 9223372036854775808 - 2 ^ (7 * k) := by
    by_cases h9 : k = 9
    · subst h9
      have := h1 rfl
      have e : (2 : Int) ^ (7 * 9) = 9223372036854775808 := by decide
      rw [e]
      omega
    · have h8 := pow_le k 8 (by omega)
      have e : (2 : Int) ^ (7 * 8) = 72057594037927936 := by decide
      rw [e] at h8
      have h127 : d ≤ 127 := by omega
      have := Int.mul_le_mul_of_nonneg_right h127 (Int.le_of_lt hp)
      omega
  have hm : 0 ≤ d * 2 ^ (7 * k) := Int.mul_nonneg hd0 (Int.le_of_lt hp)
  rw [IntWalk.u64_in _ ⟨hm, by omega⟩, or_sum (7 * k) _ d hx hx' hd0 (by omega), val_take_succ zs k hl, hc, ← hd, pow7, Int.mul_comm (2 ^ (7 * k)) d]

theorem not_good {zs : List Int} {k : Nat} (h : ∀ j, j < k → 128 ≤ at_ zs j) {m : Nat} (g : Good zs m) : k ≤ m := by
  rcases Nat.lt_or_ge m k with h1 | h1
  · have := h m h1; have := g.last; omega
  · exact h1

theorem UvPost.bad {zs : List Int} (h : ∀ k, ¬ Good zs k) {s : Int} (hs : s ≤ 0) : UvPost zs (.returned (.tuple #[.int .u64 0, .int .i64 s])) := .inr ⟨h, s, hs, rfl⟩
theorem UvPost.good {zs : List Int} {k : Nat} (h : Good zs k) {x : Int} (hx : x = val (zs.take (k + 1))) : UvPost zs (.returned (.tuple #[.int .u64 x, .int .i64 (k + 1)])) := .inl ⟨k, h, by rw [hx]⟩

set_option maxHeartbeats 400000 in
theorem uvarint_any (s : Sl) (zs : List Int) (w : World) (h : BytesAt w s zs) (hz : Bytes zs) :
    Calls Try.prog 11 #[.slice s.a s.len s.cap] w fun e w' => UvPost zs e ∧ w' = w := by
  have hel := h.elem
  have hln := h.length
  have hm := Nat.le_trans h.le h.max
  clear h
  obtain ⟨a, len, cap⟩ := s
  simp only at *
  unfold maxLen at hm
  have HE : Hid _ := hel
  have HL : Hid _ := hln
  have HZ : Hid _ := hz
  clear hel hln hz
  go_enter Try.func11, Try.ntmps11
  go_wp2
  go_loop [4, 5, 6, 7, 10] (fun x sh _ _ i => ∃ (k : Nat) (X : Int), k ≤ len ∧ k ≤ 10 ∧ i = .int .i64 k ∧ sh = .int .u64 (7 * k : Nat) ∧ x = .int .u64 X ∧ (k ≤ 9 → X = val (zs.take k)) ∧ ∀ j, j < k → 128 ≤ at_ zs j)
    (fun _ _ _ _ i => len - (intOf i).toNat)
  case atStart => exact ⟨0, 0, Nat.zero_le _, by omega, rfl, rfl, rfl, fun _ => rfl, fun j hj => absurd hj (Nat.not_lt_zero _)⟩
  case round =>
    obtain ⟨k, X, hk, hk10, rfl, rfl, rfl, hX, hmore⟩ := hrel
    have HX : Hid _ := hX
    have HM : Hid _ := hmore
    clear hX hmore
    by_cases hlt : k < len
    · obtain ⟨b, off, rfl, hb, hc⟩ := HE.out (by omega)
      have hx := hc k hlt
      have hr := HZ.out k
      have hmask := mask127 hr.1 hr.2
      clear hc HE
      generalize hcz : at_ zs k = c at *
      have HC : Hid _ := hcz
      clear hcz
      by_cases h10 : k = 10
      · subst h10
        go_wp2
        go_ret2
        exact ⟨UvPost.bad (fun m g => by have := not_good HM.out g; have := g.le; omega) (by decide), rfl⟩
      · have h10b : ((k : Int) == 10) = false := beq_eq_false_iff_ne.2 (by omega)
        by_cases h128 : c < 128
        · by_cases h9 : k = 9
          · subst h9
            by_cases h1 : 1 < c
            · go_wp2
              go_ret2
              exact ⟨UvPost.bad (fun m g => by have h := not_good HM.out g; have := g.le; obtain rfl : m = 9 := (by omega); have := g.ten rfl; rw [HC.out] at this; omega) (by decide), rfl⟩
            · go_wp2
              go_ret2
              have hl : 9 < zs.length := by rw [HL.out]; exact hlt
              have hv := uv_val zs 9 c c hl HC.out (by omega) (by omega) (fun _ => by omega)
              rw [← HX.out (by omega)] at hv
              have e : IntKind.u64.wrap (c * 2 ^ (7 * 9)) = c * 9223372036854775808 := IntWalk.u64_in _ ⟨by omega, by omega⟩
              rw [e] at hv
              exact ⟨UvPost.good (k := 9) ⟨hl, by omega, by rw [HC.out]; exact h128, HM.out, fun _ => by rw [HC.out]; omega⟩ hv, rfl⟩
          · have h9b : ((k : Int) == 9) = false := beq_eq_false_iff_ne.2 (by omega)
            go_wp2
            go_ret2
            have hl : k < zs.length := by rw [HL.out]; exact hlt
            refine ⟨UvPost.good (k := k) ⟨hl, by omega, by rw [HC.out]; exact h128, HM.out, fun e => absurd e h9⟩ ?_, rfl⟩
            rw [HX.out (by omega)]
            exact uv_val zs k c c hl HC.out (by omega) (by omega) (fun e => absurd e h9)
        · go_wp2
          have hl : k < zs.length := by rw [HL.out]; exact hlt
          have hmore : ∀ j, j < k + 1 → 128 ≤ at_ zs j := fun j hj => by
            by_cases e : j = k
            · rw [e, HC.out]; omega
            · exact HM.out j (by omega)
          refine ⟨⟨k + 1, _, by omega, by omega, by go_num, by go_num, rfl, fun h8 => ?_, hmore⟩, by simp [intOf]; omega⟩
          rw [HX.out (by omega)]
          exact uv_val zs k c _ hl HC.out rfl (by omega) (fun e => by omega)
    · obtain rfl : k = len := by omega
      go_wp2
      go_ret2
      exact ⟨UvPost.bad (fun m g => by have := not_good HM.out g; have := g.lt; have := HL.out; omega) (by decide), rfl⟩

end Go.Proofs.Qxb6604448a
