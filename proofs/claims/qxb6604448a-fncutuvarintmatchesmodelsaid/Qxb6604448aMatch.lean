/-
  'FnCutUvarintMatchesModel': the walk.
-/
import Derived.Test.Qxb6604448aCut
namespace Go.Proofs.Qxb6604448a
open Go.RowKit

theorem val_drop_le : ∀ (j : Nat) (l : List Int), val (l.drop j) ≤ val l
  | 0, l => by simp
  | j + 1, [] => by simp
  | j + 1, b :: l => by
    have h1 := val_drop_le j l
    have h2 := val_nonneg l
    have h3 : val (b :: l) = b % 128 + 128 * val l := rfl
    rw [List.drop_succ_cons, h3]
    omega

theorem val_drop_step (l : List Int) (m : Nat) (h : m < l.length) : val (l.drop m) = at_ l m % 128 + 128 * val (l.drop (m + 1)) := by
  rw [List.drop_eq_getElem_cons h, val]
  simp [at_, List.getD, h]

theorem Good.lt64 {zs : List Int} {k : Nat} (h : Good zs k) (hz : Bytes zs) : val (zs.take (k + 1)) < 18446744073709551616 := by
  have hx := val_take_lt zs k
  have hn := val_nonneg (zs.take k)
  rw [val_take_succ zs k h.lt]
  rw [pow7] at hx ⊢
  have hp := pow_pos7 k
  by_cases h9 : k = 9
  · have h1 := h.ten h9
    subst h9
    have e : (2 : Int) ^ (7 * 9) = 9223372036854775808 := by decide
    rw [e] at hx ⊢
    have h0 := (hz 9).1
    have : at_ zs 9 % 128 ≤ 1 := by omega
    omega
  · have h8 := pow_le k 8 (by have := h.le; omega)
    have e : (2 : Int) ^ (7 * 8) = 72057594037927936 := by decide
    rw [e] at h8
    have h127 : at_ zs k % 128 ≤ 127 := by omega
    have := Int.mul_le_mul_of_nonneg_left h127 (Int.le_of_lt hp)
    omega

theorem or_sum_left (s : Nat) (x m : Int) (hx : 0 ≤ x) (hx' : x < 2 ^ s) (hm : 0 ≤ m) (ht : x + m * 2 ^ s < 18446744073709551616) : bits .or .u64 (m * 2 ^ s) x = x + m * 2 ^ s := by
  obtain ⟨a, rfl⟩ := Int.eq_ofNat_of_zero_le hx
  obtain ⟨b, rfl⟩ := Int.eq_ofNat_of_zero_le hm
  have e : ((b : Int) * 2 ^ s) = ((b * 2 ^ s : Nat) : Int) := by push_cast; rfl
  have hp : (2 : Int) ^ s = ((2 ^ s : Nat) : Int) := by push_cast; rfl
  rw [hp] at hx'
  rw [e] at ht ⊢
  have ha : a < 2 ^ s := by omega
  rw [u64_or_nat (b * 2 ^ s) a (by omega) (by omega), Nat.mul_comm, ← Nat.two_pow_add_eq_or_of_lt ha]
  push_cast
  omega

/-- one group more, from the last one back -/
theorem back_val (zs : List Int) (hz : Bytes zs) (k m : Nat) (g : Good zs k) (hm : m ≤ k) :
    bits .or .u64 (IntKind.u64.wrap (val ((zs.take (k + 1)).drop (m + 1)) * 128)) (at_ zs m % 128) = val ((zs.take (k + 1)).drop m) := by
  have hl := g.lt
  have hs := val_drop_step (zs.take (k + 1)) m (by simp; omega)
  have ha : at_ (zs.take (k + 1)) m = at_ zs m := by simp [at_, List.getD, show m < k + 1 by omega]
  rw [ha] at hs
  have h1 := val_drop_le m (zs.take (k + 1))
  have h2 := g.lt64 hz
  have h3 := val_nonneg ((zs.take (k + 1)).drop (m + 1))
  have h4 := (hz m).1
  rw [IntWalk.u64_in _ ⟨by omega, by omega⟩]
  have e : (2 : Int) ^ 7 = 128 := by decide
  have := or_sum_left 7 (at_ zs m % 128) (val ((zs.take (k + 1)).drop (m + 1))) (by omega) (by rw [e]; omega) h3 (by rw [e]; omega)
  rw [e] at this
  rw [this]
  omega

theorem good_of {zs : List Int} {k : Nat} (h1 : k < zs.length) (h2 : at_ zs k < 128) (h3 : ∀ j, j < k → 128 ≤ at_ zs j) (h4 : k ≤ 9) (h5 : k = 9 → at_ zs k ≤ 1) : Good zs k := ⟨h1, h4, h2, h3, h5⟩

theorem rest_nil {w : World} {a : Option Addr} {n : Nat} {zs : List Int} (hn : zs.length ≤ n) : BytesAt w ⟨a, 0, 0⟩ (zs.drop n) :=
  ⟨Nat.le_refl _, Nat.zero_le _, by simp; omega, fun h => absurd h (Nat.lt_irrefl 0)⟩

set_option maxHeartbeats 1000000 in
theorem match_any (s : Sl) (zs : List Int) (w : World) (h : BytesAt w s zs) (hz : Bytes zs) :
    Calls Try.prog 3 #[.slice s.a s.len s.cap] w fun e w' => e = .returned (.bool true) ∧ Below w.heap.size w w' := by
  have hm := Nat.le_trans h.le h.max
  have H : Hid (BytesAt w s zs) := h
  have HZ : Hid (Bytes zs) := hz
  clear h hz
  go_enter Try.func3, Try.ntmps3
  go_wp2_with fail
  refine (zz5_any _ _ _ _ hm).mono ?_
  rintro e w' ⟨⟨b, rfl⟩, rfl⟩
  unfold maxLen at hm
  cases b with
  | false =>
    go_wp2
    go_ret
    exact ⟨rfl, Below.refl _ _⟩
  | true =>
  by_cases hl : 1048576 < s.len
  · go_wp2
    go_ret
    exact ⟨rfl, Below.refl _ _⟩
  go_wp2_with fail
  refine (clone_any s zs _ H.out (by omega)).mono ?_
  rintro e w1 ⟨⟨t, rfl, ht⟩, hb⟩
  have HB : Hid (Below _ _ _) := hb
  have T : Hid (BytesAt w1 t zs) := ht
  have hlen : t.len = s.len := by rw [← ht.length, ← H.out.length]
  have hle := ht.le
  have hmx := ht.max
  have htl : t.len ≤ 1048576 := by omega
  have TE : Hid _ := ht.elem
  have TL : Hid _ := ht.length
  clear hb ht hlen H hm hl
  obtain ⟨a, len, cap⟩ := t
  simp only at *
  unfold maxLen at hmx
  go_wp2_with fail
  go_loop [3, 4] (fun kv i => ∃ k : Nat, k ≤ len ∧ i = .int .i64 k ∧ kv = .int .i64 (-1) ∧ ∀ j, j < k → 128 ≤ at_ zs j) (fun _ i => len - (intOf i).toNat)
  case atStart => exact ⟨0, Nat.zero_le _, rfl, rfl, fun j hj => absurd hj (Nat.not_lt_zero _)⟩
  case round =>
    obtain ⟨k, hk, rfl, rfl, hmore⟩ := hrel
    have HM : Hid _ := hmore
    clear hmore
    by_cases hlt : k < len
    · obtain ⟨b, off, rfl, hbl, hc⟩ := TE.out (by omega)
      have hx := hc k hlt
      have hr := HZ.out k
      have HC : Hid _ := hc
      clear hc TE
      generalize hcz : at_ zs k = c at *
      have HCZ : Hid _ := hcz
      clear hcz
      by_cases h128 : c < 128
      · go_wp2_with fail
        refine (zzCut_any ⟨some ⟨b, off, none⟩, len, cap⟩ zs _ T.out HZ.out).mono ?_
        rintro e w2 ⟨hp, d, rfl⟩
        rcases hp with ⟨m, r, g, rfl, hrs⟩ | ⟨nog, rfl⟩
        · obtain rfl : m = k := by
            have h1 := not_good HM.out g
            rcases Nat.lt_or_ge k m with h2 | h2
            · have := g.more k h2; rw [HCZ.out] at this; omega
            · omega
          have hle9 := g.le
          have hten := g.ten
          rw [HCZ.out] at hten
          have HT : Hid _ := hten
          have G : Hid (_ ∧ _) := And.intro g hrs
          clear g hrs hten
          by_cases h9 : m = 9
          · subst h9
            have h1 : ¬ 1 < c := by have := HT.out rfl; omega
            go_wp2_with fail
            go_loop [8, 9] (fun x i => ∃ (j : Nat) (i' : Int), j ≤ 10 ∧ i = .int .i64 i' ∧ i' + 1 = j ∧ x = .int .u64 (val ((zs.take 10).drop j))) (fun _ i => (intOf i + 1).toNat)
            case atStart => exact ⟨10, 9, Nat.le_refl _, rfl, by omega, by rw [List.drop_eq_nil_of_le (by simp; omega)]; rfl⟩
            case round =>
              obtain ⟨j, i', hj, rfl, hij, rfl⟩ := hrel
              by_cases h0 : j = 0
              · subst h0
                obtain rfl : i' = -1 := by omega
                clear hij
                by_cases hcap : cap = 10
                · subst hcap
                  go_wp2_with fail
                  refine (same_any r ⟨some ⟨b, off, none⟩, 0, 0⟩ (zs.drop 10) _ G.out.2 (rest_nil (by rw [TL.out]; omega))).mono ?_
                  rintro e w3 ⟨rfl, d', rfl⟩
                  go_wp2
                  go_ret
                  exact ⟨rfl, HB.out.trans ((drewN_below _ _).mono HB.out.size)⟩
                · go_wp2_with fail
                  refine (same_any r ⟨some ⟨b, off + 10, none⟩, len - 10, cap - 10⟩ (zs.drop 10) _ G.out.2 ((rest_some hbl (by omega) hle (by unfold maxLen; omega) TL.out HC.out).below (drewN_below _ _))).mono ?_
                  rintro e w3 ⟨rfl, d', rfl⟩
                  go_wp2
                  go_ret
                  exact ⟨rfl, HB.out.trans ((drewN_below _ _).mono HB.out.size)⟩
              · obtain ⟨n, rfl⟩ : ∃ n, j = n + 1 := ⟨j - 1, by omega⟩
                obtain rfl : i' = (n : Int) := by omega
                clear hij
                have hy := HC.out n (by omega)
                have hr' := HZ.out n
                have hmask := mask127 hr'.1 hr'.2
                have HN : Hid (bits .or .u64 (IntKind.u64.wrap (val ((zs.take 10).drop (n + 1)) * 128)) (at_ zs n % 128) = val ((zs.take 10).drop n)) := back_val zs HZ.out 9 n G.out.1 (by omega)
                generalize at_ zs n = dz at *
                generalize val ((zs.take 10).drop (n + 1)) = X at *
                go_wp2
                exact ⟨⟨n, _, by omega, rfl, by omega, congrArg (Value.int .u64) HN.out⟩, by simp [intOf]⟩
          · have h9b : ((m : Int) == 9) = false := beq_eq_false_iff_ne.2 (by omega)
            go_wp2_with fail
            go_loop [8, 9] (fun x i => ∃ (j : Nat) (i' : Int), j ≤ (m + 1) ∧ i = .int .i64 i' ∧ i' + 1 = j ∧ x = .int .u64 (val ((zs.take (m + 1)).drop j))) (fun _ i => (intOf i + 1).toNat)
            case atStart => exact ⟨(m + 1), m, Nat.le_refl _, rfl, by omega, by rw [List.drop_eq_nil_of_le (by simp; omega)]; rfl⟩
            case round =>
              obtain ⟨j, i', hj, rfl, hij, rfl⟩ := hrel
              by_cases h0 : j = 0
              · subst h0
                obtain rfl : i' = -1 := by omega
                clear hij
                by_cases hcap : cap = (m + 1)
                · subst hcap
                  go_wp2_with fail
                  refine (same_any r ⟨some ⟨b, off, none⟩, 0, 0⟩ (zs.drop (m + 1)) _ G.out.2 (rest_nil (by rw [TL.out]; omega))).mono ?_
                  rintro e w3 ⟨rfl, d', rfl⟩
                  go_wp2
                  go_ret
                  exact ⟨rfl, HB.out.trans ((drewN_below _ _).mono HB.out.size)⟩
                · go_wp2_with fail
                  refine (same_any r ⟨some ⟨b, off + (m + 1), none⟩, len - (m + 1), cap - (m + 1)⟩ (zs.drop (m + 1)) _ G.out.2 ((rest_some hbl (by omega) hle (by unfold maxLen; omega) TL.out HC.out).below (drewN_below _ _))).mono ?_
                  rintro e w3 ⟨rfl, d', rfl⟩
                  go_wp2
                  go_ret
                  exact ⟨rfl, HB.out.trans ((drewN_below _ _).mono HB.out.size)⟩
              · obtain ⟨n, rfl⟩ : ∃ n, j = n + 1 := ⟨j - 1, by omega⟩
                obtain rfl : i' = (n : Int) := by omega
                clear hij
                have hy := HC.out n (by omega)
                have hr' := HZ.out n
                have hmask := mask127 hr'.1 hr'.2
                have HN : Hid (bits .or .u64 (IntKind.u64.wrap (val ((zs.take (m + 1)).drop (n + 1)) * 128)) (at_ zs n % 128) = val ((zs.take (m + 1)).drop n)) := back_val zs HZ.out m n G.out.1 (by omega)
                generalize at_ zs n = dz at *
                generalize val ((zs.take (m + 1)).drop (n + 1)) = X at *
                go_wp2
                exact ⟨⟨n, _, by omega, rfl, by omega, congrArg (Value.int .u64) HN.out⟩, by simp [intOf]⟩
        · have hbad : 9 < k ∨ (k = 9 ∧ 1 < c) := by
            rcases Nat.lt_or_ge 9 k with h1 | h1
            · exact .inl h1
            · by_cases h2 : k = 9 ∧ 1 < c
              · exact .inr h2
              · exact absurd (good_of (by rw [TL.out]; exact hlt) (by rw [HCZ.out]; exact h128) HM.out h1 (fun e => by rw [HCZ.out]; omega)) (nog k)
          clear nog
          rcases hbad with h1 | ⟨h1, h2⟩
          · go_wp2_with fail
            refine (same_any ⟨_, _, _⟩ ⟨_, _, _⟩ zs _ (T.out.below (drewN_below _ _)) (T.out.below (drewN_below _ _))).mono ?_
            rintro e w3 ⟨rfl, d', rfl⟩
            go_wp2
            go_ret
            exact ⟨rfl, HB.out.trans ((drewN_below _ _).mono HB.out.size)⟩
          · subst h1
            go_wp2_with fail
            refine (same_any ⟨_, _, _⟩ ⟨_, _, _⟩ zs _ (T.out.below (drewN_below _ _)) (T.out.below (drewN_below _ _))).mono ?_
            rintro e w3 ⟨rfl, d', rfl⟩
            go_wp2
            go_ret
            exact ⟨rfl, HB.out.trans ((drewN_below _ _).mono HB.out.size)⟩
      · go_wp2
        refine ⟨⟨k + 1, by omega, by go_num, rfl, fun j hj => ?_⟩, by simp [intOf]; omega⟩
        by_cases e : j = k
        · rw [e, HCZ.out]; omega
        · exact HM.out j (by omega)
    · clear TE
      obtain rfl : k = len := by omega
      have nog : ∀ m, ¬ Good zs m := fun m g => by have := not_good HM.out g; have := g.lt; have := TL.out; omega
      go_wp2_with fail
      refine (zzCut_any ⟨a, k, cap⟩ zs _ T.out HZ.out).mono ?_
      rintro e w2 ⟨hp, d, rfl⟩
      rcases hp with ⟨m, _, g, _⟩ | ⟨_, rfl⟩
      · exact absurd g (nog m)
      · have NG : Hid _ := nog
        clear nog
        go_wp2_with fail
        refine (same_any ⟨a, k, cap⟩ ⟨a, k, cap⟩ zs _ (T.out.below (drewN_below _ _)) (T.out.below (drewN_below _ _))).mono ?_
        rintro e w3 ⟨rfl, d', rfl⟩
        go_wp2
        go_ret
        exact ⟨rfl, HB.out.trans ((drewN_below _ _).mono HB.out.size)⟩

end Go.Proofs.Qxb6604448a
