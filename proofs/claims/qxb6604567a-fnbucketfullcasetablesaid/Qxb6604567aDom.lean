/-
  'zzDelayDomain', 'zzBucketDomain'.
-/
import Derived.Test.Qxb6604567aRows
import Derived.Test.Qxb6604567aLaw
import Derived.WalkKit
import Derived.Deep.QuietTactic
import Derived.BigQuiet
namespace Go.Proofs.Qxb6604567a
open Go.RowKit Ieee

theorem read_zero : double.read 0 = .number false 0 (-1074) := by decide

theorem rg_of {x : Nat} (h : double.order x 0 = some .gt ∨ double.order x 0 = some .eq) : ∃ r, Rg x r := by
  have f : double.signWeight = 9223372036854775808 ∧ double.binade = 4503599627370496 ∧ double.infRung = infR ∧ double.leastPlace = -1074 := by decide
  by_cases hr : x % 9223372036854775808 ≤ infR
  · by_cases e2 : x / 9223372036854775808 % 2 = 0 ∨ x % 9223372036854775808 = 0
    · exact ⟨_, dg_read x _ hr rfl e2⟩
    · exfalso
      have hs : (x / 9223372036854775808 % 2 == 1) = true := by rw [beq_iff_eq]; omega
      have neg : ∀ (m : Nat) (i : Int), 0 < m → -1074 ≤ i → (Datum.number true m i).order (.number false 0 (-1074)) = some .lt := fun m i hm hi => by
        simp only [Datum.order]
        rw [Int.min_eq_right hi, signed_eq false 0 _ (fun h => by cases h)]
        unfold signed
        rw [if_pos rfl, Nat.shiftLeft_eq]
        have := Nat.mul_pos hm (Nat.two_pow_pos (i - -1074).toNat)
        rw [Int.compare_eq_lt.2 (by omega)]
      have : double.order x 0 = some .lt := by
        unfold Format.order
        rw [read_zero]
        unfold Format.read
        simp only [f.1, f.2.1, f.2.2.1, f.2.2.2, hs]
        split
        · exact neg _ _ (by omega) (by omega)
        · split
          · exact neg _ _ (by omega) (by omega)
          · rw [if_pos (by omega)]
            rfl
      rw [this] at h
      rcases h with h | h <;> cases h
  · exfalso
    have : double.order x 0 = none := by
      unfold Format.order Format.read
      simp only [f.1, f.2.1, f.2.2.1, f.2.2.2]
      rw [if_neg (by unfold infR at hr; omega), if_neg (by omega), if_neg (by omega)]
      rfl
    rw [this] at h
    rcases h with h | h <;> cases h

/-- what 'zzDelayDomain' asks for -/
structure Dom (last : Int) (rate : Nat) (burst now : Int) (ρ : Nat) : Prop where
  l1 : -2305843009213693952 ≤ last
  l2 : last ≤ 2305843009213693952
  n1 : -2305843009213693952 ≤ now
  n2 : now ≤ 2305843009213693952
  rg : Rg rate ρ
  pos : 0 < ρ
  fin : ρ < infR
  b1 : 1 ≤ burst

theorem rg_max : Rg 9218868437227405311 9218868437227405311 := rg_self _ (by decide)
theorem rg_nil : Rg 0 0 := rg_self _ (by decide)

/-- it returned a bool; 'true' says p -/
def RetWhen (p : Prop) (e : Ending) : Prop := ∃ b, e = .returned (.bool b) ∧ (b = true → p)
theorem RetWhen.no {p : Prop} : RetWhen p (.returned (.bool false)) := ⟨false, rfl, fun h => by cases h⟩
theorem RetWhen.yes {p : Prop} (h : p) : RetWhen p (.returned (.bool true)) := ⟨true, rfl, fun _ => h⟩

set_option maxHeartbeats 1000000 in
theorem delayDomain_any (last : Int) (rate : Nat) (burst now : Int) (w : World) :
    Calls Try.prog 11 #[.int .i64 last, .float .f64 rate, .int .i64 burst, .int .i64 now] w fun e w' => RetWhen (∃ ρ, Dom last rate burst now ρ) e ∧ w' = w := by
  go_enter Try.func11, Try.ntmps11
  by_cases h1 : last < -2305843009213693952
  · go_wp2
    go_ret
    exact ⟨.no, rfl⟩
  by_cases h2 : 2305843009213693952 < last
  · go_wp2
    go_ret
    exact ⟨.no, rfl⟩
  by_cases h3 : now < -2305843009213693952
  · go_wp2
    go_ret
    exact ⟨.no, rfl⟩
  by_cases h4 : 2305843009213693952 < now
  · go_wp2
    go_ret
    exact ⟨.no, rfl⟩
  by_cases h5 : (FloatKind.f64.format.order rate 0 == some .gt) = true
  · by_cases h6 : (FloatKind.f64.format.order rate 9218868437227405311 == some .lt || FloatKind.f64.format.order rate 9218868437227405311 == some .eq) = true
    · by_cases h7 : 1 ≤ burst
      · go_wp2
        go_ret
        refine ⟨.yes ?_, rfl⟩
        have h5' : double.order rate 0 = some .gt := eq_of_beq h5
        obtain ⟨ρ, hρ⟩ := rg_of (.inl h5')
        have o1 := hρ.order rg_nil
        have o2 := hρ.order rg_max
        rw [h5'] at o1
        have h6' : (double.order rate 9218868437227405311 == some .lt || double.order rate 9218868437227405311 == some .eq) = true := h6
        rw [o2] at h6'
        refine ⟨ρ, by omega, by omega, by omega, by omega, hρ, ?_, ?_, h7⟩
        · exact Nat.compare_eq_gt.1 (Option.some.inj o1).symm
        · have : ρ ≤ 9218868437227405311 := by
            rcases Nat.lt_or_ge 9218868437227405311 ρ with h | h
            · rw [Nat.compare_eq_gt.2 h] at h6'
              cases h6'
            · exact h
          unfold infR
          omega
      · go_wp2
        go_ret
        exact ⟨.no, rfl⟩
    · simp only [Bool.not_eq_true] at h6
      go_wp2
      go_ret
      exact ⟨.no, rfl⟩
  · simp only [Bool.not_eq_true] at h5
    go_wp2
    go_ret
    exact ⟨.no, rfl⟩

set_option maxHeartbeats 1000000 in
theorem bucketDomain_any (tokens : Nat) (last : Int) (rate : Nat) (burst now : Int) (w : World) :
    Calls Try.prog 7 #[.float .f64 tokens, .int .i64 last, .float .f64 rate, .int .i64 burst, .int .i64 now] w fun e w' => RetWhen (∃ τ ρ, Rg tokens τ ∧ τ < infR ∧ Dom last rate burst now ρ) e ∧ w' = w := by
  go_enter Try.func7, Try.ntmps7
  by_cases h5 : (FloatKind.f64.format.order tokens 0 == some .gt || FloatKind.f64.format.order tokens 0 == some .eq) = true
  · by_cases h6 : (FloatKind.f64.format.order tokens 9218868437227405311 == some .gt) = true
    · go_wp2
      go_ret
      exact ⟨.no, rfl⟩
    · simp only [Bool.not_eq_true] at h6
      go_wp2_with fail
      refine (delayDomain_any last rate burst now w).mono ?_
      rintro e w1 ⟨⟨b, rfl, hb⟩, rfl⟩
      have HB : Hid _ := hb
      clear hb
      go_wp2
      go_ret
      refine ⟨⟨b, rfl, fun hb => ?_⟩, rfl⟩
      obtain ⟨ρ, hρ⟩ := HB.out hb
      have h5' : (double.order tokens 0 == some .gt || double.order tokens 0 == some .eq) = true := h5
      obtain ⟨τ, hτ⟩ := rg_of (x := tokens) (by simpa using h5')
      have o2 := hτ.order rg_max
      have h6' : (double.order tokens 9218868437227405311 == some .gt) = false := h6
      rw [o2] at h6'
      refine ⟨τ, ρ, hτ, ?_, hρ⟩
      have : τ ≤ 9218868437227405311 := by
        rcases Nat.lt_or_ge 9218868437227405311 τ with h | h
        · rw [Nat.compare_eq_gt.2 h] at h6'
          cases h6'
        · exact h
      unfold infR
      omega
  · simp only [Bool.not_eq_true] at h5
    go_wp2
    go_ret
    exact ⟨.no, rfl⟩

end Go.Proofs.Qxb6604567a
