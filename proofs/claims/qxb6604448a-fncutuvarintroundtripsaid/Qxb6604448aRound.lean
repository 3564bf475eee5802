/-
  'FnCutUvarintRoundTrip': the walk.
-/
import Derived.Test.Qxb6604448aCut
namespace Go.Proofs.Qxb6604448a
open Go.RowKit

/-- n, written as far as 'pre'; X is what is left -/
structure Enc (n : Int) (pre : List Int) (X : Int) : Prop where
  nn : 0 ≤ X
  more : ∀ j, j < pre.length → 128 ≤ at_ pre j ∧ at_ pre j ≤ 255
  eq : val pre + 128 ^ pre.length * X = n
  pos : pre = [] ∨ 1 ≤ X

theorem Enc.init {n : Int} (hn : 0 ≤ n) : Enc n [] n := ⟨hn, fun j hj => absurd hj (Nat.not_lt_zero _), by simp [val], .inl rfl⟩

theorem at_append_left (l m : List Int) (j : Nat) (h : j < l.length) : at_ (l ++ m) j = at_ l j := by
  unfold at_; rw [List.getD_eq_getElem?_getD, List.getD_eq_getElem?_getD, List.getElem?_append_left h]
theorem at_append_right (l m : List Int) (j : Nat) : at_ (l ++ m) (l.length + j) = at_ m j := by
  unfold at_; rw [List.getD_eq_getElem?_getD, List.getD_eq_getElem?_getD, List.getElem?_append_right (by omega)]; simp

theorem Enc.step {n X : Int} {pre : List Int} (h : Enc n pre X) (hx : 128 ≤ X) : Enc n (pre ++ [X % 128 + 128]) (X / 128) := by
  refine ⟨by omega, fun j hj => ?_, ?_, .inr (by omega)⟩
  · by_cases e : j < pre.length
    · rw [at_append_left _ _ _ e]; exact h.more j e
    · obtain rfl : j = pre.length := by simp at hj; omega
      have := at_append_right pre [X % 128 + 128] 0
      rw [Nat.add_zero] at this
      rw [this]
      simp only [at_, List.getD_cons_zero]
      omega
  · rw [val_snoc, List.length_append, List.length_singleton, Int.pow_succ]
    have e := h.eq
    have h1 : (X % 128 + 128) % 128 = X % 128 := by omega
    rw [h1]
    have h2 : 128 ^ pre.length * X = 128 ^ pre.length * (X % 128) + 128 ^ pre.length * 128 * (X / 128) := by
      rw [Int.mul_assoc, ← Int.mul_add]
      congr 1
      omega
    omega

theorem Enc.short {n X : Int} {pre : List Int} (h : Enc n pre X) (hn : n < 18446744073709551616) : pre.length ≤ 9 := by
  rcases h.pos with rfl | hX
  · simp
  · rcases Nat.lt_or_ge 9 pre.length with hl | hl
    · exfalso
      have h1 := val_nonneg pre
      have h2 := h.eq
      have h3 : (2 : Int) ^ (7 * 10) ≤ 2 ^ (7 * pre.length) := by
        have := Nat.pow_le_pow_right (n := 2) (by decide) (show 7 * 10 ≤ 7 * pre.length by omega)
        exact_mod_cast this
      have e : (2 : Int) ^ (7 * 10) = 1180591620717411303424 := by decide
      rw [pow7] at h2
      rw [e] at h3
      have h4 := Int.mul_le_mul_of_nonneg_left hX (show 0 ≤ (2 : Int) ^ (7 * pre.length) by omega)
      omega
    · exact hl

theorem Enc.last {n X : Int} {pre : List Int} (h : Enc n pre X) (hn : n < 18446744073709551616) (h9 : pre.length = 9) : X ≤ 1 := by
  have h1 := val_nonneg pre
  have h2 := h.eq
  rw [h9] at h2
  have e : (128 : Int) ^ 9 = 9223372036854775808 := by decide
  rw [e] at h2
  omega

theorem Enc.good {n X : Int} {pre ts : List Int} (h : Enc n pre X) (hn : n < 18446744073709551616) (hX : X < 128) : Good (pre ++ [X] ++ ts) pre.length := by
  have ha : at_ (pre ++ [X] ++ ts) pre.length = X := by
    rw [at_append_left _ _ _ (by simp)]
    have := at_append_right pre [X] 0
    rw [Nat.add_zero] at this
    rw [this]
    rfl
  refine ⟨by simp, h.short hn, by rw [ha]; exact hX, fun j hj => ?_, fun h9 => by rw [ha]; exact h.last hn h9⟩
  rw [at_append_left _ _ _ (by simp; omega), at_append_left _ _ _ hj]
  exact (h.more j hj).1

theorem Enc.val {n X : Int} {pre ts : List Int} (h : Enc n pre X) (hX : X < 128) : val ((pre ++ [X] ++ ts).take (pre.length + 1)) = n := by
  rw [List.take_left' (by simp), val_snoc, ← h.eq]
  have := h.nn
  have : X % 128 = X := by omega
  rw [this]

theorem Enc.bytes {n X : Int} {pre ts : List Int} (h : Enc n pre X) (hX : X < 128) (hts : Bytes ts) : Bytes (pre ++ [X] ++ ts) := by
  intro j
  by_cases h1 : j < pre.length
  · rw [at_append_left _ _ _ (by simp; omega), at_append_left _ _ _ h1]
    have := h.more j h1
    omega
  · by_cases h2 : j = pre.length
    · subst h2
      rw [at_append_left _ _ _ (by simp)]
      have := at_append_right pre [X] 0
      rw [Nat.add_zero] at this
      rw [this]
      have := h.nn
      simp only [at_, List.getD_cons_zero]
      omega
    · obtain ⟨i, rfl⟩ : ∃ i, j = (pre ++ [X]).length + i := ⟨j - (pre.length + 1), by simp; omega⟩
      rw [at_append_right]
      exact hts i

theorem or128 : ∀ y : Nat, y < 256 → y ||| 128 = y % 128 + 128 := by decide +kernel

theorem byte128 (X : Int) : bits .or .u8 (X % 256) 128 = X % 128 + 128 := by
  have h1 := u8_or (X % 256) 128 (by omega) (by omega) (by omega) (by omega)
  rw [h1]
  have := or128 (X % 256).toNat (by omega)
  have e2 : (128 : Int).toNat = 128 := rfl
  rw [e2, this]
  omega

/-- the buffer as it is being written -/
structure Buf (w1 wr : World) (cap : Nat) (zs : List Int) : Prop where
  own : wr.ownsRow w1.heap.size 5 1 (.slice (some ⟨w1.heap.size, 0, none⟩) zs.length cap) zs.length (zs.map (Value.int .u8))
  bel : Below w1.heap.size w1 wr
  lt : w1.heap.size < wr.heap.size

theorem Buf.grown {w1 wr w' : World} {cap : Nat} {zs : List Int} {z : Int} (o : Obj) (h : Buf w1 wr cap zs)
    (ho : w'.ownsRow w1.heap.size 5 1 (.slice (some ⟨w1.heap.size, 0, none⟩) (zs.length + 1) cap) (zs.length + 1) (zs.map (Value.int .u8) ++ [.int .u8 z])) (hg : (wr.alloc o).grownBy w' (some w1.heap.size)) :
    Buf w1 w' cap (zs ++ [z]) := by
  refine ⟨by simpa using ho, ?_, ?_⟩
  · exact (h.bel.alloc h.bel.size o).grown hg (by have := h.bel.size; simp; omega) (fun k hk => by cases hk; exact Nat.le_refl _)
  · have := hg.size
    have := h.lt
    simp at *
    omega

theorem Buf.bytes {w1 wr : World} {cap : Nat} {zs : List Int} (h : Buf w1 wr cap zs) (hc : zs.length ≤ cap) (hm : cap ≤ maxLen) : BytesAt wr ⟨some ⟨w1.heap.size, 0, none⟩, zs.length, cap⟩ zs := by
  refine ⟨hc, hm, rfl, fun _ => ⟨_, 0, rfl, h.lt, fun i hi => ?_⟩⟩
  simp only at hi
  rw [Nat.zero_add, h.own.cellAt i (by omega)]
  simp [at_, List.getD, hi]

theorem cell_new (w : World) (t : TypeId) (v : Value) : ∀ j u, [v][j]? = some u → (w.alloc (.cells #[v] t)).cell? ((⟨w.heap.size, 0, none⟩ : Addr).add j) = some u := by
  intro j u hu
  match j, hu with
  | 0, hu =>
    simp at hu
    subst hu
    simp [Addr.add]

set_option maxHeartbeats 1000000 in
theorem round_any (n : Int) (s : Sl) (ts : List Int) (w : World) (hn0 : 0 ≤ n) (hn1 : n < 18446744073709551616) (h : BytesAt w s ts) (hz : Bytes ts) :
    Calls Try.prog 4 #[.int .u64 n, .slice s.a s.len s.cap] w fun e w' => e = .returned (.bool true) ∧ Below w.heap.size w w' := by
  obtain ⟨i0, hi, hz0, hz1, hz2⟩ := info_parts Try.info5
  have hm := Nat.le_trans h.le h.max
  have H : Hid (BytesAt w s ts) := h
  have HZ : Hid (Bytes ts) := hz
  have HI : Hid (_ ∧ _ ∧ _ ∧ _) := ⟨hi, hz0, hz1, hz2⟩
  have HN : Hid (n < 18446744073709551616) := hn1
  clear h hz hi hz0 hz1 hz2 hn1
  go_enter Try.func4, Try.ntmps4
  go_wp2_with fail
  refine (zz9_any _ _ _ _ _ hm).mono ?_
  rintro e w' ⟨⟨b, rfl⟩, rfl⟩
  unfold maxLen at hm
  cases b with
  | false =>
    go_wp2
    go_ret
    exact ⟨rfl, Below.refl _ _⟩
  | true =>
  by_cases hl : 1048576 < s.len
  · go_wp2
    go_ret
    exact ⟨rfl, Below.refl _ _⟩
  go_wp2_with fail
  refine (clone_any s ts _ H.out (by omega)).mono ?_
  rintro e w1 ⟨⟨t, rfl, ht⟩, hb⟩
  have HB : Hid (Below _ _ _) := hb
  have T : Hid (BytesAt w1 t ts) := ht
  have hlen : t.len = s.len := by rw [← ht.length, ← H.out.length]
  have htl : t.len ≤ 1048576 := by omega
  have TE : Hid _ := ht.elem
  have TL : Hid _ := ht.length
  clear hb ht hlen H hm hl
  obtain ⟨a, len, cap⟩ := t
  simp only at *
  go_wp2_with (at_make; refine wpList_make_own _ rfl _ _ 22 rfl w1.heap.size 5 i0 (.int .u8 0) 1 Try.underlying22 HI.out.1 HI.out.2.1 HI.out.2.2.1 _ _ _ (len + 10) rfl rfl (by omega) ?b2 ?b3 (Nat.le_refl _) ?_)
  case b2 => rw [HI.out.2.2.2]; omega
  case b3 => unfold maxLen; omega
  intro w0 hown0 hgrow0
  have B0 : Hid (Buf w1 w0 (len + 10) []) := ⟨hown0, (Below.refl _ _).grown hgrow0 (Nat.le_refl _) (fun k h => by cases h), by
    have := hown0.lt w1.heap.size rfl
    omega⟩
  clear hown0 hgrow0
  go_wp2_with fail
  go_loopw [5, 6] (fun buf x wr => ∃ (pre : List Int) (X : Int), Enc n pre X ∧ x = .int .u64 X ∧ buf = .slice (some ⟨w1.heap.size, 0, none⟩) pre.length (len + 10) ∧ Buf w1 wr (len + 10) pre) (fun _ x _ => (intOf x).toNat)
  case atStart => exact ⟨[], n, Enc.init hn0, rfl, rfl, B0.out⟩
  case round =>
    clear B0
    obtain ⟨pre, X, henc, rfl, rfl, hbuf⟩ := hrel
    have E : Hid (Enc n pre X) := henc
    have hx0 := henc.nn
    have hsh := henc.short HN.out
    have B : Hid (Buf _ _ _ _) := hbuf
    have hown := hbuf.own
    clear henc hbuf
    by_cases hx : 128 ≤ X
    · have hbyte := byte128 X
      have hxm : X < 18446744073709551616 := by
        have h1 := E.out.eq
        have h2 := val_nonneg pre
        have h3 := HN.out
        have hp := pow_pos7 pre.length
        rw [← pow7] at hp
        have h4 := Int.mul_le_mul_of_nonneg_right (show (1 : Int) ≤ 128 ^ pre.length by omega) hx0
        omega
      go_wp2_with (at_builtin; refine wpList_append_fits _ rfl (.tmp 27) (.tmp 31) 22 rfl w1.heap.size 5 i0 1 Try.underlying22 HI.out.1 HI.out.2.2.1 w1.heap.size pre.length (len + 10) _ rfl (hown.alloc _) ⟨wr.heap.size, 0, none⟩ 1 1 [.int .u8 (X % 128 + 128)] rfl rfl (cell_new _ _ _) (by intro u hu; simp at hu; subst hu; rfl) (by omega) ?_)
      intro w2 hown2 hgrow2
      have B2 : Hid (Buf w1 w2 (len + 10) (pre ++ [X % 128 + 128])) := B.out.grown _ hown2 hgrow2
      have E2 : Hid (Enc n _ _) := E.out.step hx
      clear hown hown2 hgrow2 B E
      go_wp2
      exact ⟨⟨_, _, E2.out, rfl, by simp, B2.out⟩, by simp [intOf]; omega⟩
    · go_wp2_with (at_builtin; refine wpList_append_fits _ rfl (.tmp 35) (.tmp 38) 22 rfl w1.heap.size 5 i0 1 Try.underlying22 HI.out.1 HI.out.2.2.1 w1.heap.size pre.length (len + 10) _ rfl (hown.alloc _) ⟨wr.heap.size, 0, none⟩ 1 1 [.int .u8 X] rfl rfl (cell_new _ _ _) (by intro u hu; simp at hu; subst hu; rfl) (by omega) ?_)
      intro w2 hown2 hgrow2
      have B2 : Hid (Buf w1 w2 (len + 10) (pre ++ [X])) := B.out.grown _ hown2 hgrow2
      clear hown hown2 hgrow2 B
      have hX : X < 128 := by omega
      go_wp2_with fail
      go_loopw [5, 7] (fun buf i wr => ∃ k : Nat, k ≤ len ∧ i = .int .i64 k ∧ buf = .slice (some ⟨w1.heap.size, 0, none⟩) (pre.length + 1 + k) (len + 10) ∧ Buf w1 wr (len + 10) (pre ++ [X] ++ ts.take k)) (fun _ i _ => len - (intOf i).toNat)
      case atStart => exact ⟨0, Nat.zero_le _, rfl, rfl, by simpa using B2.out⟩
      case round =>
        clear B2
        obtain ⟨k, hk, rfl, rfl, hbuf⟩ := hrel
        have B : Hid (Buf _ _ _ _) := hbuf
        have hlk : (pre ++ [X] ++ ts.take k).length = pre.length + 1 + k := by have := TL.out; simp; omega
        have hown := hbuf.own
        rw [hlk] at hown
        have HLK : Hid _ := hlk
        clear hbuf hlk
        by_cases hlt : k < len
        · obtain ⟨b, off, rfl, hbl, hc⟩ := TE.out (by omega)
          have hy := (B.out.bel.cell (p := ⟨b, off + k, none⟩) hbl).trans (hc k hlt)
          have HA : Hid (ts.take (k + 1) = ts.take k ++ [at_ ts k]) := take_snoc ts k (by rw [TL.out]; exact hlt)
          clear hc TE
          generalize at_ ts k = z at *
          go_wp2_with (at_builtin; refine wpList_append_fits _ rfl (.tmp 46) (.tmp 51) 22 rfl w1.heap.size 5 i0 1 Try.underlying22 HI.out.1 HI.out.2.2.1 w1.heap.size (pre.length + 1 + k) (len + 10) _ rfl (hown.alloc _) ⟨wr.heap.size, 0, none⟩ 1 1 [.int .u8 z] rfl rfl (cell_new _ _ _) (by intro u hu; simp at hu; subst hu; rfl) (by omega) ?_)
          intro w3 hown3 hgrow3
          have B3 : Hid (Buf w1 w3 (len + 10) (pre ++ [X] ++ ts.take (k + 1))) := by
            have := B.out.grown (z := z) _ (by rw [HLK.out]; simpa using hown3) hgrow3
            rw [HA.out, ← List.append_assoc]
            exact this
          clear hown hown3 hgrow3 B
          go_wp2
          exact ⟨⟨k + 1, by omega, by go_num, rfl, B3.out⟩, by simp [intOf]; omega⟩
        · obtain rfl : k = len := by omega
          have hts : ts.take k = ts := List.take_of_length_le (by rw [TL.out]; exact Nat.le_refl _)
          have BB : Hid (BytesAt wr ⟨some ⟨w1.heap.size, 0, none⟩, pre.length + 1 + k, k + 10⟩ (pre ++ [X] ++ ts)) := by
            have hb := B.out
            have hl := HLK.out
            rw [hts] at hb hl
            have := hb.bytes (by omega) (by unfold maxLen; omega)
            rw [hl] at this
            exact this
          have HW : Hid (Below _ _ _) := B.out.bel
          have hsz := B.out.bel.size
          clear hts hown B HLK
          go_wp2_with fail
          refine (zzCut_any ⟨some ⟨w1.heap.size, 0, none⟩, pre.length + 1 + k, k + 10⟩ (pre ++ [X] ++ ts) _ BB.out (E.out.bytes hX HZ.out)).mono ?_
          rintro e w4 ⟨hp, d, rfl⟩
          have G : Hid (Good _ _) := E.out.good (ts := ts) HN.out hX
          rcases hp with ⟨m, r, g, rfl, hrs⟩ | ⟨nog, rfl⟩
          · obtain rfl : m = pre.length := g.unique G.out
            have hv : val ((pre ++ [X] ++ ts).take (pre.length + 1)) = n := E.out.val hX
            have hd : (pre ++ [X] ++ ts).drop (pre.length + 1) = ts := List.drop_left' (by simp)
            rw [hd] at hrs
            rw [hv]
            have HR : Hid (BytesAt _ _ _) := hrs
            clear hv hd hrs g
            go_wp2_with fail
            refine (same_any r ⟨a, k, cap⟩ ts _ HR.out ((T.out.below HW.out).below (drewN_below _ _))).mono ?_
            rintro e w5 ⟨rfl, d', rfl⟩
            go_wp2
            go_ret
            exact ⟨rfl, (HB.out.trans (HW.out.mono HB.out.size)).trans ((drewN_below _ _).mono (Nat.le_trans HB.out.size hsz))⟩
          · exact absurd G.out (nog _)

end Go.Proofs.Qxb6604448a
