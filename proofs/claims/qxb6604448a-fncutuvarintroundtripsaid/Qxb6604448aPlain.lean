/-
  PLAIN: a varint's value; no Go in sight.
-/
import Derived.Laws.BitsAllLaws
import Derived.Laws.BitsLemmas
namespace Go.Proofs.Qxb6604448a

/-- the 7-bit groups, the first the lowest -/
def val : List Int → Int
  | [] => 0
  | b :: l => b % 128 + 128 * val l

theorem val_nonneg : ∀ l, 0 ≤ val l
  | [] => Int.le_refl _
  | b :: l => by have := val_nonneg l; unfold val; omega

theorem val_lt : ∀ l : List Int, val l < 128 ^ l.length
  | [] => by decide
  | b :: l => by
    have := val_lt l
    unfold val
    rw [List.length_cons, Int.pow_succ]
    omega

theorem val_snoc : ∀ (l : List Int) (b : Int), val (l ++ [b]) = val l + 128 ^ l.length * (b % 128)
  | [], b => by simp [val]
  | a :: l, b => by
    have := val_snoc l b
    rw [List.cons_append, val, val, this, List.length_cons, Int.pow_succ, Int.mul_add, Int.add_assoc]
    congr 2
    rw [Int.mul_comm (128 ^ l.length) 128, Int.mul_assoc]

/-- the byte at j -/
def at_ (zs : List Int) (j : Nat) : Int := zs.getD j 0

/-- each is a byte -/
def Bytes (zs : List Int) : Prop := ∀ j, 0 ≤ at_ zs j ∧ at_ zs j ≤ 255

/-- a varint ends at k -/
structure Good (zs : List Int) (k : Nat) : Prop where
  lt : k < zs.length
  le : k ≤ 9
  last : at_ zs k < 128
  more : ∀ j, j < k → 128 ≤ at_ zs j
  ten : k = 9 → at_ zs k ≤ 1

theorem Good.unique {zs : List Int} {k m : Nat} (h : Good zs k) (g : Good zs m) : k = m := by
  rcases Nat.lt_trichotomy k m with h1 | h1 | h1
  · have := g.more k h1; have := h.last; omega
  · exact h1
  · have := h.more m h1; have := g.last; omega

theorem take_snoc (zs : List Int) (k : Nat) (h : k < zs.length) : zs.take (k + 1) = zs.take k ++ [at_ zs k] := by
  rw [List.take_succ_eq_append_getElem h]
  simp [at_, List.getD, h]

theorem val_take_succ (zs : List Int) (k : Nat) (h : k < zs.length) : val (zs.take (k + 1)) = val (zs.take k) + 128 ^ k * (at_ zs k % 128) := by
  rw [take_snoc zs k h, val_snoc]
  simp [Nat.min_eq_left (Nat.le_of_lt h)]

theorem val_take_lt (zs : List Int) (k : Nat) : val (zs.take k) < 128 ^ k := by
  have h1 := val_lt (zs.take k)
  have h2 : (zs.take k).length ≤ k := List.length_take_le _ _
  have h3 : (128 : Int) ^ (zs.take k).length ≤ 128 ^ k := by
    have := Nat.pow_le_pow_right (n := 128) (by decide) h2
    exact_mod_cast this
  omega

theorem pow7 (k : Nat) : (128 : Int) ^ k = 2 ^ (7 * k) := by
  rw [Int.pow_mul]
  rfl

/-- 'or' of a low part and a multiple is the sum -/
theorem or_sum (s : Nat) (x m : Int) (hx : 0 ≤ x) (hx' : x < 2 ^ s) (hm : 0 ≤ m) (ht : x + m * 2 ^ s < 18446744073709551616) : bits .or .u64 x (m * 2 ^ s) = x + m * 2 ^ s := by
  obtain ⟨a, rfl⟩ := Int.eq_ofNat_of_zero_le hx
  obtain ⟨b, rfl⟩ := Int.eq_ofNat_of_zero_le hm
  have e : ((b : Int) * 2 ^ s) = ((b * 2 ^ s : Nat) : Int) := by push_cast; rfl
  have hp : (2 : Int) ^ s = ((2 ^ s : Nat) : Int) := by push_cast; rfl
  rw [hp] at hx'
  rw [e] at ht ⊢
  have ha : a < 2 ^ s := by omega
  rw [u64_or_nat a (b * 2 ^ s) (by omega) (by omega), Nat.or_comm, Nat.mul_comm, ← Nat.two_pow_add_eq_or_of_lt ha]
  push_cast
  omega

end Go.Proofs.Qxb6604448a
