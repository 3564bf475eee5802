/-
  'FnKindFieldsEachFieldAlone': the walk.
-/
import Derived.Test.Qxb6604414aTu
import Derived.Test.Qxb6604414aQu
import Derived.Test.Qxb6604414aZz36
import Derived.Deep.QuietTactic
import Derived.BigQuiet
namespace Go.Proofs.Qxb6604414a
open Go.RowKit

/-- a row of names and a row of flags lie in memory -/
structure Pair (w : World) (n g : Nat) (fl : List Bool) : Prop where
  nlt : n < w.heap.size
  glt : g < w.heap.size
  name : ∀ i, i < 13 → w.cell? ⟨n, i, none⟩ = some (.string (nameAt i))
  flag : ∀ i, i < 13 → w.cell? ⟨g, i, none⟩ = some (.bool (fl.getD i false))

theorem Pair.below {w w' : World} {n g : Nat} {fl : List Bool} (h : Pair w n g fl) (hb : Below w.heap.size w w') : Pair w' n g fl :=
  ⟨Nat.lt_of_lt_of_le h.nlt hb.size, Nat.lt_of_lt_of_le h.glt hb.size, fun i hi => (hb.cell (p := ⟨n, i, none⟩) h.nlt).trans (h.name i hi), fun i hi => (hb.cell (p := ⟨g, i, none⟩) h.glt).trans (h.flag i hi)⟩

theorem Handed.pair {w w' : World} {fl : List Bool} {e : Ending} (h : Handed w fl e w') : ∃ n g, e = .returned (.tuple #[.slice (some ⟨n, 0, none⟩) 13 13, .slice (some ⟨g, 0, none⟩) 13 13]) ∧ Pair w' n g fl := by
  obtain ⟨n, g, h1, _, _, h4, h5, h6, h7⟩ := h
  exact ⟨n, g, h1, h4, h5, h6, h7⟩

/-- the input's box and all that was there -/
structure Box (w wr : World) (q : QIn) : Prop where
  box : wr.heap[w.heap.size]? = some (.cells q.cells 45 (0, 0))
  bel : Below w.heap.size w wr

theorem Box.below {w wr w' : World} {q : QIn} (h : Box w wr q) (hb : Below wr.heap.size wr w') : Box w w' q :=
  have hl : w.heap.size < wr.heap.size := (Array.getElem?_eq_some_iff.1 h.box).1
  ⟨(hb.block _ hl).trans h.box, h.bel.trans (hb.mono (by omega))⟩

theorem info45 (q : QIn) : (Try.prog.info? 45).map (·.size) = some q.cells.size := by kernel_rfl

theorem set_same (fl : List Bool) (k : Nat) (b : Bool) (h : k < fl.length) : (fl.set k b).getD k false = b := by simp [List.getD, h]
theorem set_other (fl : List Bool) (k j : Nat) (b : Bool) (h : j ≠ k) : (fl.set k b).getD j false = fl.getD j false := by simp [List.getD, Ne.symm h]

theorem drewN_below (w : World) (d : Nat) : Below w.heap.size w (w.drewN d) := ⟨rfl, rfl, rfl, Nat.le_refl _, fun _ _ => rfl⟩

theorem flags_len (q : QIn) : q.flags.length = 13 := rfl

set_option maxHeartbeats 1000000 in
set_option maxRecDepth 100000 in
theorem each_any (q : QIn) (w : World) (h : q.ok w) :
    Calls Try.prog 8 #[.agg q.cells] w fun e w' => e = .returned (.bool true) ∧ Below w.heap.size w w' := by
  have HI : Hid (_ = _) := info45 q
  have HX : Hid (Box _ _ _) := (⟨heap_alloc_new _ _, (Below.refl _ _).alloc (Nat.le_refl _) _⟩ : Box w (w.alloc (.cells q.cells 45)) q)
  have H : Hid (QIn.ok _ _) := h
  clear h
  go_enter Try.func8, Try.ntmps8
  go_wp2_with (refine wpList_load_row rfl 45 _ rfl w.heap.size rfl 45 q.cells (0, 0) _ HX.out.box Try.underlying45 rfl HI.out ?_)
  refine (zz36_any q _ (H.out.below HX.out.bel)).mono ?_
  rintro e w1 ⟨⟨b, rfl⟩, hb⟩
  have HX1 : Hid (Box _ _ _) := HX.out.below hb
  clear hb HX
  cases b with
  | false =>
    go_wp2
    go_ret
    exact ⟨rfl, HX1.out.bel⟩
  | true =>
  go_wp2_with (refine wpList_load_row rfl 45 _ rfl w.heap.size rfl 45 q.cells (0, 0) _ HX1.out.box Try.underlying45 rfl HI.out ?_)
  refine (qTooBig_any q _ (H.out.below HX1.out.bel)).mono ?_
  rintro e w2 ⟨⟨b, rfl, hs⟩, hb⟩
  have HX2 : Hid (Box _ _ _) := HX1.out.below hb
  clear hb HX1
  cases b with
  | true =>
    clear hs
    go_wp2
    go_ret
    exact ⟨rfl, HX2.out.bel⟩
  | false =>
  have HS : Hid (QIn.short _) := hs rfl
  clear hs
  go_wp2_with (refine wpList_load_row rfl 45 _ rfl w.heap.size rfl 45 q.cells (0, 0) _ HX2.out.box Try.underlying45 rfl HI.out ?_)
  refine (question_any q _ (H.out.below HX2.out.bel) HS.out).mono ?_
  rintro e w3 ⟨⟨o, rfl, hco, hfl⟩, hb⟩
  have HX3 : Hid (Box _ _ _) := HX2.out.below hb
  have HF : Hid (o.flags = q.flags) := hfl
  have HO : Hid (BytesAt _ _ _) := hco
  clear hb HX2 hfl hco
  go_wp2_with fail
  refine (zzKindFields_any o _ HO.out).mono ?_
  rintro e w4 ⟨hh, hb⟩
  obtain ⟨n, g, rfl, hp⟩ := hh.pair
  have HX4 : Hid (Box _ _ _) := HX3.out.below hb
  have HP : Hid (Pair w4 n g q.flags) := HF.out ▸ hp
  clear hb HX3 hh hp HF HO
  go_wp2_with fail
  have LN := flags_len q
  go_loopw [5, 6, 7, 8, 9, 10] (fun i _ _ _ _ _ wr => ∃ k : Nat, k ≤ 13 ∧ i = .int .i64 k ∧ Box w wr q ∧ Pair wr n g q.flags) (fun i _ _ _ _ _ _ => 13 - (intOf i).toNat)
  case atStart => exact ⟨0, by omega, rfl, HX4.out, HP.out⟩
  case round =>
    clear HX4 HP
    obtain ⟨k, hk, rfl, hx, hp⟩ := hrel
    have HX : Hid (Box _ _ _) := hx
    have HP : Hid (Pair _ _ _ _) := hp
    clear hx hp
    by_cases hk13 : k < 13
    · go_wp2_with (refine wpList_load_row rfl 45 _ rfl w.heap.size rfl 45 q.cells (0, 0) _ HX.out.box Try.underlying45 rfl HI.out ?_)
      refine (cleared_any q k hk13 _ (H.out.below HX.out.bel) HS.out).mono ?_
      rintro e v1 ⟨⟨q1, rfl, hok, hsh, hfl⟩, hb⟩
      have HX1 : Hid (Box _ _ _) := HX.out.below hb
      have HP1 : Hid (Pair _ _ _ _) := HP.out.below hb
      have OK : Hid (QIn.ok _ _) := hok
      have SH : Hid (QIn.short _) := hsh
      have HF : Hid (q1.flags = _) := hfl
      clear hb hok hsh hfl HX HP
      go_wp2_with fail
      refine (question_any q1 _ OK.out SH.out).mono ?_
      rintro e v2 ⟨⟨o1, rfl, hco, hfl⟩, hb⟩
      have HX : Hid (Box _ _ _) := HX1.out.below hb
      have HP : Hid (Pair _ _ _ _) := HP1.out.below hb
      have HF1 : Hid (o1.flags = _) := hfl.trans HF.out
      have HO : Hid (BytesAt _ _ _) := hco
      clear hb hfl hco HX1 HP1 HF OK SH
      go_wp2_with fail
      refine (zzKindFields_any o1 _ HO.out).mono ?_
      rintro e v3 ⟨hh, hb⟩
      obtain ⟨n1, g1, rfl, hp1⟩ := hh.pair
      have HX1 : Hid (Box _ _ _) := HX.out.below hb
      have HP1 : Hid (Pair _ _ _ _) := HP.out.below hb
      have HC : Hid (Pair v3 n1 g1 (q.flags.set k false)) := HF1.out ▸ hp1
      clear hb HX HP hh hp1 HF1 HO
      go_wp2_with (refine wpList_load_row rfl 45 _ rfl w.heap.size rfl 45 q.cells (0, 0) _ HX1.out.box Try.underlying45 rfl HI.out ?_)
      refine (setOne_any q k hk13 _ (H.out.below HX1.out.bel) HS.out).mono ?_
      rintro e v4 ⟨⟨q2, rfl, hok, hsh, hfl⟩, hb⟩
      have HX : Hid (Box _ _ _) := HX1.out.below hb
      have HP : Hid (Pair _ _ _ _) := HP1.out.below hb
      have HC1 : Hid (Pair _ _ _ _) := HC.out.below hb
      have OK : Hid (QIn.ok _ _) := hok
      have SH : Hid (QIn.short _) := hsh
      have HF : Hid (q2.flags = _) := hfl
      clear hb hok hsh hfl HX1 HP1 HC
      go_wp2_with fail
      refine (question_any q2 _ OK.out SH.out).mono ?_
      rintro e v5 ⟨⟨o2, rfl, hco, hfl⟩, hb⟩
      have HX1 : Hid (Box _ _ _) := HX.out.below hb
      have HP1 : Hid (Pair _ _ _ _) := HP.out.below hb
      have HC : Hid (Pair _ _ _ _) := HC1.out.below hb
      have HF1 : Hid (o2.flags = _) := hfl.trans HF.out
      have HO : Hid (BytesAt _ _ _) := hco
      clear hb hfl hco HX HP HF OK SH HC1
      go_wp2_with fail
      refine (zzKindFields_any o2 _ HO.out).mono ?_
      rintro e v6 ⟨hh, hb⟩
      obtain ⟨n2, g2, rfl, hp2⟩ := hh.pair
      have HX : Hid (Box _ _ _) := HX1.out.below hb
      have HP : Hid (Pair _ _ _ _) := HP1.out.below hb
      have HC1 : Hid (Pair _ _ _ _) := HC.out.below hb
      have HD : Hid (Pair v6 n2 g2 (q.flags.set k true)) := HF1.out ▸ hp2
      clear hb HX1 HP1 hh hp2 HF1 HO HC
      have c1 := HC1.out.flag k hk13
      have c2 := HD.out.flag k hk13
      rw [set_same _ _ _ (by rw [LN]; exact hk13)] at c1 c2
      go_wp2_with fail
      clear c1 c2
      go_loopw [10] (fun j wr => ∃ (m : Nat) (d : Nat), m ≤ 13 ∧ j = .int .i64 m ∧ wr = v6.drewN d) (fun j _ => 13 - (intOf j).toNat)
      case atStart => exact ⟨0, 0, by omega, rfl, rfl⟩
      case round =>
        obtain ⟨m, d, hm, rfl, rfl⟩ := hrel
        by_cases hm13 : m < 13
        · have a1 := HP.out.name m hm13
          have a2 := HC1.out.name m hm13
          have a3 := HD.out.name m hm13
          have b1 := HP.out.flag m hm13
          have b2 := HC1.out.flag m hm13
          have b3 := HD.out.flag m hm13
          generalize nameAt m = nm at a1 a2 a3
          have hg : ((m : Int) < 13) := by omega
          by_cases hmk : m = k
          · subst hmk
            clear b1 b2 b3
            go_wp2
            go_quiet (fail)
            go_wp2
            go_quiet (fail)
            go_wp2
            go_roundw
            case rel => exact ⟨m + 1, _, by omega, by go_num, rfl⟩
            case measure => simp [intOf]; omega
          · rw [set_other _ _ _ _ hmk] at b2 b3
            generalize q.flags.getD m false = bm at b1 b2 b3
            have hne : ((m : Int) != (k : Int)) = true := by rw [bne_iff_ne]; omega
            go_wp2
            go_quiet (fail)
            go_wp2
            go_quiet (fail)
            go_wp2
            go_roundw
            case rel => exact ⟨m + 1, _, by omega, by go_num, rfl⟩
            case measure => simp [intOf]; omega
        · go_wp2
          go_roundw
          case rel => exact ⟨k + 1, by omega, by go_num, HX.out.below (drewN_below _ _), HP.out.below (drewN_below _ _)⟩
          case measure => simp [intOf]; omega
    · go_wp2
      go_ret
      exact ⟨rfl, HX.out.bel⟩

end Go.Proofs.Qxb6604414a
