/-
  'FnKindFieldsNamesAndPresence': the walk.
-/
import Derived.Test.Qxb6604414aMain
import Derived.Test.Qxb6604414aZz27
import Derived.Test.Qxb6604414aNm
import Derived.Test.Qxb6604414aRs
import Derived.Test.Qxb6604414aAl
namespace Go.Proofs.Qxb6604414a
open Go.RowKit

theorem rep_at (b : Bool) (i : Nat) (h : i < 13) : (List.replicate 13 b).getD i false = b := by
  rw [List.getD_eq_getElem?_getD, List.getElem?_replicate, if_pos h]
  rfl

set_option maxHeartbeats 4000000 in
set_option maxRecDepth 100000 in
theorem names_any (q : QIn) (w : World) (h : q.ok w) :
    Calls Try.prog 7 #[.agg q.cells] w fun e w' => e = .returned (.bool true) ∧ Below w.heap.size w w' := by
  have HI : Hid (_ = _) := info45 q
  have HX : Hid (Box _ _ _) := (⟨heap_alloc_new _ _, (Below.refl _ _).alloc (Nat.le_refl _) _⟩ : Box w (w.alloc (.cells q.cells 45)) q)
  have H : Hid (QIn.ok _ _) := h
  clear h
  go_enter Try.func7, Try.ntmps7
  go_wp2_with (refine wpList_load_row rfl 45 _ rfl w.heap.size rfl 45 q.cells (0, 0) _ HX.out.box Try.underlying45 rfl HI.out ?_)
  refine (zz27_any q _ (H.out.below HX.out.bel)).mono ?_
  rintro e w1 ⟨⟨b, rfl, hsl⟩, hb⟩
  have NHX : Hid _ := HX.out.below hb
  clear HX hb
  have HX : Hid _ := NHX.out
  clear NHX
  cases b with
  | false =>
    clear hsl
    go_wp2
    go_ret
    exact ⟨rfl, HX.out.bel⟩
  | true =>
  have HL : Hid (QIn.slim _) := hsl rfl
  clear hsl
  go_wp2_with (refine wpList_load_row rfl 45 _ rfl w.heap.size rfl 45 q.cells (0, 0) _ HX.out.box Try.underlying45 rfl HI.out ?_)
  refine (qTooBig_any q _ (H.out.below HX.out.bel)).mono ?_
  rintro e w2 ⟨⟨b, rfl, hs⟩, hb⟩
  have NHX : Hid _ := HX.out.below hb
  clear HX hb
  have HX : Hid _ := NHX.out
  clear NHX
  cases b with
  | true =>
    clear hs
    go_wp2
    go_ret
    exact ⟨rfl, HX.out.bel⟩
  | false =>
  have HS : Hid (QIn.short _) := hs rfl
  clear hs
  go_wp2_with (refine wpList_load_row rfl 45 _ rfl w.heap.size rfl 45 q.cells (0, 0) _ HX.out.box Try.underlying45 rfl HI.out ?_)
  have OK : Hid (QIn.ok _ _) := H.out.below HX.out.bel
  go_wp2_with fail
  refine (question_any q _ OK.out HS.out).mono ?_
  rintro e xa ⟨⟨ox, rfl, hco, hfl⟩, hb⟩
  have HO : Hid (BytesAt _ _ _) := hco
  have HF : Hid (ox.flags = q.flags) := hfl.trans rfl
  have NHX : Hid _ := HX.out.below hb
  clear HX hb hco hfl
  have HX : Hid _ := NHX.out
  clear NHX
  go_wp2_with fail
  refine (zzKindFields_any ox _ HO.out).mono ?_
  rintro e xb ⟨hh, hb⟩
  obtain ⟨nx, gx, rfl, hp⟩ := hh.pair
  have HP : Hid (Pair _ nx gx (q.flags)) := HF.out ▸ hp
  have NHX : Hid _ := HX.out.below hb
  clear HX hb hh hp HF HO
  have HX : Hid _ := NHX.out
  clear NHX
  go_wp2_with fail
  refine (namesRight_any nx _ HP.out.name).mono ?_
  rintro e xc ⟨rfl, dx, rfl⟩
  have NHX : Hid _ := HX.out.below (drewN_below _ dx)
  have NHP : Hid _ := HP.out.below (drewN_below _ dx)
  clear HX HP
  have HX : Hid _ := NHX.out
  have HP : Hid _ := NHP.out
  clear NHX NHP
  clear OK
  go_wp2_with (refine wpList_load_row rfl 45 _ rfl w.heap.size rfl 45 q.cells (0, 0) _ HX.out.box Try.underlying45 rfl HI.out ?_)
  refine (reshaped_any q _ (H.out.below HX.out.bel) HS.out HL.out).mono ?_
  rintro e w3 ⟨⟨q1, rfl, hok, hsh, hfl⟩, hb⟩
  have OK : Hid (QIn.ok _ _) := hok
  have SH : Hid (QIn.short _) := hsh
  have FQ : Hid (q1.flags = q.flags) := hfl
  have NHX : Hid _ := HX.out.below hb
  have NHP : Hid _ := HP.out.below hb
  clear HX HP hb hok hsh hfl
  have HX : Hid _ := NHX.out
  have HP : Hid _ := NHP.out
  clear NHX NHP
  go_wp2_with fail
  refine (question_any q1 _ OK.out SH.out).mono ?_
  rintro e ya ⟨⟨oy, rfl, hco, hfl⟩, hb⟩
  have HO : Hid (BytesAt _ _ _) := hco
  have HF : Hid (oy.flags = q.flags) := hfl.trans FQ.out
  have NHX : Hid _ := HX.out.below hb
  have NHP : Hid _ := HP.out.below hb
  clear HX HP hb hco hfl
  have HX : Hid _ := NHX.out
  have HP : Hid _ := NHP.out
  clear NHX NHP
  go_wp2_with fail
  refine (zzKindFields_any oy _ HO.out).mono ?_
  rintro e yb ⟨hh, hb⟩
  obtain ⟨ny, gy, rfl, hp⟩ := hh.pair
  have HR : Hid (Pair _ ny gy (q.flags)) := HF.out ▸ hp
  have NHX : Hid _ := HX.out.below hb
  have NHP : Hid _ := HP.out.below hb
  clear HX HP hb hh hp HF HO
  have HX : Hid _ := NHX.out
  have HP : Hid _ := NHP.out
  clear NHX NHP
  go_wp2_with fail
  refine (namesRight_any ny _ HR.out.name).mono ?_
  rintro e yc ⟨rfl, dy, rfl⟩
  have NHX : Hid _ := HX.out.below (drewN_below _ dy)
  have NHP : Hid _ := HP.out.below (drewN_below _ dy)
  have NHR : Hid _ := HR.out.below (drewN_below _ dy)
  clear HX HP HR
  have HX : Hid _ := NHX.out
  have HP : Hid _ := NHP.out
  have HR : Hid _ := NHR.out
  clear NHX NHP NHR
  clear OK SH FQ
  go_wp2_with fail
  generalize hW : World.drewN _ _ = W at *
  clear hW
  go_loopw [7] (fun i wr => ∃ (m d : Nat), m ≤ 13 ∧ i = .int .i64 m ∧ wr = W.drewN d) (fun i _ => 13 - (intOf i).toNat)
  case atStart => exact ⟨0, 0, by omega, rfl, rfl⟩
  case round =>
    obtain ⟨m, d, hm, rfl, rfl⟩ := hrel
    by_cases hm13 : m < 13
    · have b1 := HP.out.flag m hm13
      have b2 := HR.out.flag m hm13
      have hg : (m : Int) < 13 := by omega
      generalize q.flags.getD m false = bm at b1 b2
      go_wp2
      go_quiet (fail)
      go_wp2
      go_roundw
      case rel => exact ⟨m + 1, _, by omega, by go_num, rfl⟩
      case measure => simp [intOf]; omega
    clear HR
    have NHX : Hid _ := HX.out.below (drewN_below W d)
    have NHP : Hid _ := HP.out.below (drewN_below W d)
    clear HX HP
    have HX : Hid _ := NHX.out
    have HP : Hid _ := NHP.out
    clear NHX NHP
    go_wp2_with (refine wpList_load_row rfl 45 _ rfl w.heap.size rfl 45 q.cells (0, 0) _ HX.out.box Try.underlying45 rfl HI.out ?_)
    refine (allCleared_any q _ (H.out.below HX.out.bel) HS.out).mono ?_
    rintro e w4 ⟨⟨q2, rfl, hok, hsh, hfl⟩, hb⟩
    have OK : Hid (QIn.ok _ _) := hok
    have SH : Hid (QIn.short _) := hsh
    have FQ : Hid (q2.flags = List.replicate 13 false) := hfl
    have NHX : Hid _ := HX.out.below hb
    have NHP : Hid _ := HP.out.below hb
    clear HX HP hb hok hsh hfl
    have HX : Hid _ := NHX.out
    have HP : Hid _ := NHP.out
    clear NHX NHP
    go_wp2_with fail
    refine (question_any q2 _ OK.out SH.out).mono ?_
    rintro e za ⟨⟨oz, rfl, hco, hfl⟩, hb⟩
    have HO : Hid (BytesAt _ _ _) := hco
    have HF : Hid (oz.flags = List.replicate 13 false) := hfl.trans FQ.out
    have NHX : Hid _ := HX.out.below hb
    have NHP : Hid _ := HP.out.below hb
    clear HX HP hb hco hfl
    have HX : Hid _ := NHX.out
    have HP : Hid _ := NHP.out
    clear NHX NHP
    go_wp2_with fail
    refine (zzKindFields_any oz _ HO.out).mono ?_
    rintro e zb ⟨hh, hb⟩
    obtain ⟨nz, gz, rfl, hp⟩ := hh.pair
    have HC : Hid (Pair _ nz gz (List.replicate 13 false)) := HF.out ▸ hp
    have NHX : Hid _ := HX.out.below hb
    have NHP : Hid _ := HP.out.below hb
    clear HX HP hb hh hp HF HO
    have HX : Hid _ := NHX.out
    have HP : Hid _ := NHP.out
    clear NHX NHP
    go_wp2_with fail
    refine (namesRight_any nz _ HC.out.name).mono ?_
    rintro e zc ⟨rfl, dz, rfl⟩
    have NHX : Hid _ := HX.out.below (drewN_below _ dz)
    have NHP : Hid _ := HP.out.below (drewN_below _ dz)
    have NHC : Hid _ := HC.out.below (drewN_below _ dz)
    clear HX HP HC
    have HX : Hid _ := NHX.out
    have HP : Hid _ := NHP.out
    have HC : Hid _ := NHC.out
    clear NHX NHP NHC
    clear OK SH FQ
    go_wp2_with (refine wpList_load_row rfl 45 _ rfl w.heap.size rfl 45 q.cells (0, 0) _ HX.out.box Try.underlying45 rfl HI.out ?_)
    refine (allLeast_any q _ (H.out.below HX.out.bel) HS.out).mono ?_
    rintro e w5 ⟨⟨q3, rfl, hok, hsh, hfl⟩, hb⟩
    have OK : Hid (QIn.ok _ _) := hok
    have SH : Hid (QIn.short _) := hsh
    have FQ : Hid (q3.flags = List.replicate 13 true) := hfl
    have NHX : Hid _ := HX.out.below hb
    have NHP : Hid _ := HP.out.below hb
    have NHC : Hid _ := HC.out.below hb
    clear HX HP HC hb hok hsh hfl
    have HX : Hid _ := NHX.out
    have HP : Hid _ := NHP.out
    have HC : Hid _ := NHC.out
    clear NHX NHP NHC
    go_wp2_with fail
    refine (question_any q3 _ OK.out SH.out).mono ?_
    rintro e ta ⟨⟨ot, rfl, hco, hfl⟩, hb⟩
    have HO : Hid (BytesAt _ _ _) := hco
    have HF : Hid (ot.flags = List.replicate 13 true) := hfl.trans FQ.out
    have NHX : Hid _ := HX.out.below hb
    have NHP : Hid _ := HP.out.below hb
    have NHC : Hid _ := HC.out.below hb
    clear HX HP HC hb hco hfl
    have HX : Hid _ := NHX.out
    have HP : Hid _ := NHP.out
    have HC : Hid _ := NHC.out
    clear NHX NHP NHC
    go_wp2_with fail
    refine (zzKindFields_any ot _ HO.out).mono ?_
    rintro e tb ⟨hh, hb⟩
    obtain ⟨nt, gt, rfl, hp⟩ := hh.pair
    have HD : Hid (Pair _ nt gt (List.replicate 13 true)) := HF.out ▸ hp
    have NHX : Hid _ := HX.out.below hb
    have NHP : Hid _ := HP.out.below hb
    have NHC : Hid _ := HC.out.below hb
    clear HX HP HC hb hh hp HF HO
    have HX : Hid _ := NHX.out
    have HP : Hid _ := NHP.out
    have HC : Hid _ := NHC.out
    clear NHX NHP NHC
    go_wp2_with fail
    refine (namesRight_any nt _ HD.out.name).mono ?_
    rintro e tc ⟨rfl, dt, rfl⟩
    have NHX : Hid _ := HX.out.below (drewN_below _ dt)
    have NHP : Hid _ := HP.out.below (drewN_below _ dt)
    have NHC : Hid _ := HC.out.below (drewN_below _ dt)
    have NHD : Hid _ := HD.out.below (drewN_below _ dt)
    clear HX HP HC HD
    have HX : Hid _ := NHX.out
    have HP : Hid _ := NHP.out
    have HC : Hid _ := NHC.out
    have HD : Hid _ := NHD.out
    clear NHX NHP NHC NHD
    clear OK SH FQ
    go_wp2_with fail
    generalize hW : World.drewN _ _ = V at *
    clear hW
    go_loop [12] (fun i => ∃ m : Nat, m ≤ 13 ∧ i = .int .i64 m) (fun i => 13 - (intOf i).toNat)
    case atStart => exact ⟨0, by omega, rfl⟩
    case round =>
      obtain ⟨m, hm, rfl⟩ := hrel
      by_cases hm13 : m < 13
      · have b1 := HC.out.flag m hm13
        have b2 := HD.out.flag m hm13
        rw [rep_at _ _ hm13] at b1 b2
        go_wp2
        go_round
        case rel => exact ⟨m + 1, by omega, by go_num⟩
        case measure => simp [intOf]; omega
      clear HC HD
      go_wp2_with fail
      go_loopw [13, 14, 15, 16, 17, 18, 19] (fun i _ _ _ _ _ _ wr => ∃ k : Nat, k ≤ 9 ∧ i = .int .i64 k ∧ Box w wr q ∧ Pair wr nx gx q.flags) (fun i _ _ _ _ _ _ _ => 9 - (intOf i).toNat)
      case atStart => exact ⟨0, by omega, rfl, HX.out, HP.out⟩
      case round =>
        clear HX HP
        obtain ⟨k, hk, rfl, hx, hp⟩ := hrel
        have HX : Hid (Box _ _ _) := hx
        have HP : Hid (Pair _ _ _ _) := hp
        clear hx hp
        by_cases hk9 : k < 9
        · go_wp2_with fail
          refine (variant_any k hk9 _).mono ?_
          rintro e v1 ⟨⟨s, rfl, hby, hgv⟩, hb⟩
          have BY : Hid (BytesAt v1 s (variant k)) := hby
          have GV : Hid (_ = given_ k) := hgv
          have NHX : Hid _ := HX.out.below hb
          have NHP : Hid _ := HP.out.below hb
          clear HX HP hb hby hgv
          have HX : Hid _ := NHX.out
          have HP : Hid _ := NHP.out
          clear NHX NHP
          generalize given_ k = wb at *
          generalize variant k = vb at *
          go_upto_region 31 with (fail)
          go_upto_region 32 with (first | (refine wpList_load_row rfl 45 _ rfl w.heap.size rfl 45 q.cells (0, 0) _ HX.out.box Try.underlying45 rfl HI.out ?_) | (refine wpList_store_row rfl 45 _ _ rfl v1.heap.size q.cells rfl rfl 45 zeroI (heap_alloc_new v1 _) HI.out rfl (QIn.all1 q) ?_))
          have hz : (v1.alloc (.cells zeroI 45)).heap[v1.heap.size]? = some (.cells zeroI 45 (0, 0)) := heap_alloc_new v1 _
          have B2 : Hid _ := setRow_heap _ _ zeroI q.cells _ _ hz
          have hb : Below v1.heap.size v1 (((v1.alloc (.cells zeroI 45)).setRow v1.heap.size q.cells).setCell ⟨v1.heap.size, 4, none⟩ (.slice s.a s.len s.cap)) := (below_setRow ((Below.refl _ _).alloc (Nat.le_refl _) _) (Nat.le_refl _) _).setCell (p := ⟨v1.heap.size, 4, none⟩) (Nat.le_refl _) _
          have c4 : ((v1.alloc (.cells zeroI 45)).setRow v1.heap.size q.cells).cell? ⟨v1.heap.size, 4, none⟩ = some (.slice q.co.a q.co.len q.co.cap) := (cell_of_row _ _ _ _ _ _ B2.out).trans rfl
          have f4 := frozen_of_row _ _ 4 _ _ B2.out
          have B3 : Hid _ := heap_setCell_same _ _ 4 _ _ (.slice s.a s.len s.cap) B2.out
          clear hz B2
          have HB : Hid (Below _ _ _) := hb
          clear hb
          unfold zeroI at c4 f4 B3 HB
          generalize World.setRow _ _ _ = W at *
          go_upto_region 33 with (fail)
          clear c4 f4
          have NHX : Hid _ := HX.out.below HB.out
          have NHP : Hid _ := HP.out.below HB.out
          have NBY : Hid _ := BY.out.below HB.out
          clear HX HP BY HB
          have HX : Hid _ := NHX.out
          have HP : Hid _ := NHP.out
          have BY : Hid _ := NBY.out
          clear NHX NHP NBY
          generalize World.setCell _ _ _ = W2 at *
          obtain ⟨qv, hqv⟩ : ∃ qv : QIn, qv = { q with co := s, cb := vb } := ⟨_, rfl⟩
          have hcs : q.cells.setIfInBounds 4 (.slice s.a s.len s.cap) = qv.cells := by subst hqv; kernel_rfl
          have OK : Hid (qv.ok W2) := by subst hqv; exact ⟨(H.out.below HX.out.bel).op, BY.out, (H.out.below HX.out.bel).ac, (H.out.below HX.out.bel).ga, (H.out.below HX.out.bel).it, (H.out.below HX.out.bel).lf, (H.out.below HX.out.bel).rt, (H.out.below HX.out.bel).pk, (H.out.below HX.out.bel).pv, H.out.id, H.out.kd, H.out.tx, H.out.tl, H.out.al, H.out.tm⟩
          have SH : Hid qv.short := by subst hqv; exact ⟨HS.out.op, HS.out.ac, HS.out.ga, HS.out.it, HS.out.lf, HS.out.rt, HS.out.pk, HS.out.pv⟩
          have FQ : Hid (qv.flags = q.flags.set 1 wb) := by subst hqv; rw [← GV.out]; rfl
          have B4 : Hid (W2.heap[v1.heap.size]? = some (.cells qv.cells 45 (0, 0))) := hcs ▸ B3.out
          clear B3 hcs hqv BY GV
          generalize v1.heap.size = bk at *
          go_wp2_with (refine wpList_load_row rfl 45 _ rfl bk rfl 45 qv.cells (0, 0) _ B4.out Try.underlying45 rfl (info45 qv) ?_)
          clear B4
          go_wp2_with fail
          refine (question_any qv _ OK.out SH.out).mono ?_
          rintro e va ⟨⟨ov, rfl, hco, hfl⟩, hb⟩
          have HO : Hid (BytesAt _ _ _) := hco
          have HF : Hid (ov.flags = q.flags.set 1 wb) := hfl.trans FQ.out
          have NHX : Hid _ := HX.out.below hb
          have NHP : Hid _ := HP.out.below hb
          clear HX HP hb hco hfl
          have HX : Hid _ := NHX.out
          have HP : Hid _ := NHP.out
          clear NHX NHP
          go_wp2_with fail
          refine (zzKindFields_any ov _ HO.out).mono ?_
          rintro e vb ⟨hh, hb⟩
          obtain ⟨nv, gv, rfl, hp⟩ := hh.pair
          have HV : Hid (Pair _ nv gv (q.flags.set 1 wb)) := HF.out ▸ hp
          have NHX : Hid _ := HX.out.below hb
          have NHP : Hid _ := HP.out.below hb
          clear HX HP hb hh hp HF HO
          have HX : Hid _ := NHX.out
          have HP : Hid _ := NHP.out
          clear NHX NHP
          go_wp2_with fail
          refine (namesRight_any nv _ HV.out.name).mono ?_
          rintro e vc ⟨rfl, dv, rfl⟩
          have NHX : Hid _ := HX.out.below (drewN_below _ dv)
          have NHP : Hid _ := HP.out.below (drewN_below _ dv)
          have NHV : Hid _ := HV.out.below (drewN_below _ dv)
          clear HX HP HV
          have HX : Hid _ := NHX.out
          have HP : Hid _ := NHP.out
          have HV : Hid _ := NHV.out
          clear NHX NHP NHV
          clear OK SH FQ
          go_wp2_with fail
          generalize hW : World.drewN _ _ = U at *
          clear hW
          have LN := flags_len q
          go_loopw [19] (fun j wr => ∃ (m d : Nat), m ≤ 13 ∧ j = .int .i64 m ∧ wr = U.drewN d) (fun j _ => 13 - (intOf j).toNat)
          case atStart => exact ⟨0, 0, by omega, rfl, rfl⟩
          case round =>
            obtain ⟨m, d, hm, rfl, rfl⟩ := hrel
            by_cases hm13 : m < 13
            · have b1 := HP.out.flag m hm13
              have b2 := HV.out.flag m hm13
              have hg : (m : Int) < 13 := by omega
              by_cases hm1 : m = 1
              · have he : ((m : Int) == 1) = true := by rw [beq_iff_eq]; omega
                rw [show (q.flags.set 1 wb).getD m false = wb by subst hm1; exact set_same _ _ _ (by rw [LN]; omega)] at b2
                clear b1 hm1
                go_wp2
                go_roundw
                case rel => exact ⟨m + 1, _, by omega, by go_num, rfl⟩
                case measure => simp [intOf]; omega
              · have he : ((m : Int) == 1) = false := by rw [beq_eq_false_iff_ne]; omega
                rw [set_other _ _ _ _ hm1] at b2
                generalize q.flags.getD m false = bm at b1 b2
                clear hm1
                go_wp2
                go_quiet (fail)
                go_wp2
                go_roundw
                case rel => exact ⟨m + 1, _, by omega, by go_num, rfl⟩
                case measure => simp [intOf]; omega
            · go_wp2
              go_roundw
              case rel => exact ⟨k + 1, by omega, by go_num, HX.out.below (drewN_below _ _), HP.out.below (drewN_below _ _)⟩
              case measure => simp [intOf]; omega
        · go_wp2
          go_ret
          exact ⟨rfl, HX.out.bel⟩

end Go.Proofs.Qxb6604414a
