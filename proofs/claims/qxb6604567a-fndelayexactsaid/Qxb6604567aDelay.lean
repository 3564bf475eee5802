/-
  'admits', 'math.Ceil', 'delay', 'ZZdelay'.
-/
import Derived.Test.Qxb6604567aCeil
import Derived.Test.Qxb6604567aTok
import Derived.Laws.Externs
namespace Go.Proofs.Qxb6604567a
open Go.RowKit Ieee

/-! ### NaNs -/
def nanW (w : World) (x y : Nat) : Nat := (Question.nanBits .f64 x y).cut (w.tape w.drawn (Question.nanBits .f64 x y))

theorem nan_read {z : Nat} (h : infR < z % 9223372036854775808) : ∃ s f, double.read z = .nan s f ∧ f = z % 9223372036854775808 - infR := by
  unfold Format.read
  simp only [flds.1, flds.2.1, flds.2.2.1, flds.2.2.2]
  rw [if_neg (by unfold infR at h; omega), if_neg (by omega), if_neg (by omega)]
  exact ⟨_, _, rfl, rfl⟩

theorem nan_order {z : Nat} (h : infR < z % 9223372036854775808) (y : Nat) : FloatKind.f64.format.order z y = none := by
  obtain ⟨s, f, hr, _⟩ := nan_read h
  show double.order z y = none
  unfold Format.order
  rw [hr]
  rfl

theorem nanW_nan (w : World) (x y : Nat) : infR < nanW w x y % 9223372036854775808 := by
  unfold nanW
  generalize w.tape w.drawn (Question.nanBits .f64 x y) = t
  have e : (Question.nanBits .f64 x y).cut t = (t % 2) * 9223372036854775808 + 9218868437227405312 + 1 + (t / 2) % 4503599627370495 := rfl
  rw [e]
  have hq := Nat.mod_lt (t / 2) (show 0 < 4503599627370495 by decide)
  generalize (t / 2) % 4503599627370495 = q at *
  rw [show t % 2 * 9223372036854775808 + 9218868437227405312 + 1 + q = 9218868437227405313 + q + t % 2 * 9223372036854775808 by omega, Nat.add_mul_mod_self_right, Nat.mod_eq_of_lt (by omega)]
  unfold infR
  omega

theorem nan_arith {op : BinOp} {x y : Nat} (ho : op = .add ∨ op = .sub ∨ op = .mul ∨ op = .quo) (h : floatBits op .f64 x y = none) : ∀ t w, (binOp op t (.float .f64 x) (.float .f64 y)).run Try.prog w = .ok (.float .f64 (nanW w x y)) w.drew := fun t w => by
  unfold floatBits at h
  rcases ho with rfl | rfl | rfl | rfl <;> simp only at h <;> simp [binOp, Op.floatArith, h, nanW, Question.forced]

theorem nan_quo (v : World) (x y c : Nat) : ∀ t w, (binOp .quo t (.float .f64 (nanW v x y)) (.float .f64 c)).run Try.prog w = .ok (.float .f64 (nanW w (nanW v x y) c)) w.drew :=
  nan_arith (.inr (.inr (.inr rfl))) (by
    obtain ⟨s, f, hr, _⟩ := nan_read (nanW_nan v x y)
    show double.div _ _ = none
    unfold Format.div
    rw [hr]
    rfl)

theorem nan_mul (v : World) (x y c : Nat) : ∀ t w, (binOp .mul t (.float .f64 (nanW v x y)) (.float .f64 c)).run Try.prog w = .ok (.float .f64 (nanW w (nanW v x y) c)) w.drew :=
  nan_arith (.inr (.inr (.inl rfl))) (by
    obtain ⟨s, f, hr, _⟩ := nan_read (nanW_nan v x y)
    show double.mul _ _ = none
    unfold Format.mul
    rw [hr]
    rfl)

/-! ### math.Ceil -/
theorem ceil_entry (x : Nat) (w : World) : (callFunc 19 #[.float .f64 x]).run Try.prog w = ((Extern.MathFloor.toIntegral "math.archCeil" .up #[.float .f64 x]).run Try.prog w).andThen fun v w' => .ok (.value v) w' :=
  run_callFunc_extern (fn := Try.f19) (by kernel_rfl) (by kernel_rfl) (by kernel_rfl) (by kernel_rfl) (by kernel_rfl) _ w

/-- a NaN goes its own way; any other number is made whole -/
def ceilBy (k : Bool → Nat → Sem Value) (d : Datum) : Sem Value :=
  match d with
  | .nan s t => k s t
  | e => pure (.float .f64 (double.write (e.integral .up)))

theorem ceil_of (x : Nat) : ∃ k, Extern.MathFloor.toIntegral "math.archCeil" .up #[.float .f64 x] = ceilBy k (FloatKind.f64.decode x) ∧
    ∀ s t (w : World), ∃ z n, (z = x ∨ z = FloatKind.f64.encode (.nan s (FloatKind.f64.format.quiet t))) ∧ (k s t).run Try.prog w = .ok (.float .f64 z) (w.drewN n) := by
  refine ⟨_, (rfl : Extern.MathFloor.toIntegral "math.archCeil" .up #[.float .f64 x] = ceilBy _ (FloatKind.f64.decode x)), fun s t w => ?_⟩
  by_cases hq : FloatKind.f64.format.quiet t = t
  · rw [if_pos hq]
    exact ⟨x, 0, .inl rfl, rfl⟩
  · rw [if_neg hq]
    generalize hz : FloatKind.f64.encode (.nan s (FloatKind.f64.format.quiet t)) = z
    simp only [Sem.run_bind, run_choose_drew]
    rw [if_neg (by decide)]
    simp only [Result.andThen, Sem.run_pure]
    split
    · exact ⟨x, 1, .inl rfl, rfl⟩
    · exact ⟨z, 1, .inr rfl, rfl⟩

theorem ceil_num {x χ : Nat} (h : Rg x χ) (w : World) : (callFunc 19 #[.float .f64 x]).run Try.prog w = .ok (.value (.float .f64 (double.write ((double.read x).integral .up)))) w := by
  obtain ⟨k, hk, _⟩ := ceil_of x
  rw [ceil_entry, hk]
  unfold Rg at h
  have e : FloatKind.f64.decode x = double.read x := rfl
  rw [e]
  generalize double.read x = d at *
  cases d with
  | nan => exact h.elim
  | infinity s => rfl
  | number s m i => rfl

theorem ceil_nan {x : Nat} (h : infR < x % 9223372036854775808) (w : World) : ∃ z n, infR < z % 9223372036854775808 ∧ (callFunc 19 #[.float .f64 x]).run Try.prog w = .ok (.value (.float .f64 z)) (w.drewN n) := by
  obtain ⟨s, f, hr, hf⟩ := nan_read h
  have hf1 : f < 4503599627370496 := by
    have := Nat.mod_lt x (show 0 < 9223372036854775808 by decide)
    unfold infR at hf
    omega
  have e : FloatKind.f64.decode x = .nan s f := hr
  obtain ⟨k, hk, hn⟩ := ceil_of x
  obtain ⟨z, n, hz, hrun⟩ := hn s f w
  refine ⟨z, n, ?_, ?_⟩
  · rcases hz with rfl | rfl
    · exact h
    · have e2 : FloatKind.f64.encode (.nan s (FloatKind.f64.format.quiet f)) = double.word s (infR + (f ||| 2251799813685248) % 4503599627370496) := rfl
      have q1 : f ||| 2251799813685248 < 2 ^ 52 := Nat.or_lt_two_pow (by omega) (by decide)
      have q2 : 2251799813685248 ≤ f ||| 2251799813685248 := Nat.right_le_or
      rw [show 2 ^ 52 = 4503599627370496 by decide] at q1
      rw [e2, Nat.mod_eq_of_lt q1]
      generalize f ||| 2251799813685248 = g at *
      unfold Format.word
      rw [flds.1]
      unfold infR
      cases s with
      | true =>
        simp only [if_true]
        rw [Nat.add_mod_left, Nat.mod_eq_of_lt (by omega)]
        omega
      | false =>
        simp only [Bool.false_eq_true, if_false]
        rw [Nat.mod_eq_of_lt (by omega)]
        omega
  · rw [ceil_entry, hk, e]
    show ((k s f).run Try.prog w).andThen _ = _
    rw [hrun]
    rfl

end Go.Proofs.Qxb6604567a
