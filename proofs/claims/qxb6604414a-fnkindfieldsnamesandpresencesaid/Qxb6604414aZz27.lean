/-
  zzBytes_FnKindFieldsNamesAndPresence: a bool; true says that the strings are short; nothing turns.
-/
import Derived.Test.Qxb6604414aSlim
namespace Go.Proofs.Qxb6604414a
open Go.RowKit

set_option maxHeartbeats 16000000 in
set_option maxRecDepth 100000 in
theorem zz27_any (q : QIn) (w : World) (h : q.ok w) :
    Calls Try.prog 27 #[.agg q.cells] w fun e w' => RetWhen q.slim e ∧ Below w.heap.size w w' := by
  have o1 := h.op.elem
  have l1 := Nat.le_trans h.op.le h.op.max
  have o2 := h.ac.elem
  have l2 := Nat.le_trans h.ac.le h.ac.max
  have o3 := h.ga.elem
  have l3 := Nat.le_trans h.ga.le h.ga.max
  have o4 := h.it.elem
  have l4 := Nat.le_trans h.it.le h.it.max
  have o5 := h.lf.elem
  have l5 := Nat.le_trans h.lf.le h.lf.max
  have o6 := h.rt.elem
  have l6 := Nat.le_trans h.rt.le h.rt.max
  have o7 := h.pk.elem
  have l7 := Nat.le_trans h.pk.le h.pk.max
  have o8 := h.pv.elem
  have l8 := Nat.le_trans h.pv.le h.pv.max
  clear h
  obtain ⟨id, kd, tx, ⟨oa, ol, oc⟩, ⟨ca, cl, cc⟩, tl, al, ⟨aa, al1, ac⟩, ⟨ga, gl, gc⟩, ⟨ia, il, ic⟩, ⟨la, ll, lc⟩, ⟨ra, rl, rc⟩, ⟨ka, kl, kc⟩, ⟨va, vl, vc⟩, po, tm, ex, cb⟩ := q
  unfold maxLen at l1 l2 l3 l4 l5 l6 l7 l8
  unfold QIn.cells
  simp only at *
  have O2 : Hid _ := o2
  have O3 : Hid _ := o3
  have O4 : Hid _ := o4
  have O5 : Hid _ := o5
  have O6 : Hid _ := o6
  have O7 : Hid _ := o7
  have O8 : Hid _ := o8
  have O1 : Hid _ := o1
  clear o1 o2 o3 o4 o5 o6 o7 o8
  go_enter Try.func27, Try.ntmps27
  go_wp2
  all_goals first | (go_ret; exact ⟨.no, (Below.refl _ _).alloc (Nat.le_refl _) _⟩) | skip
  go_loop [3, 4] (fun n i => ∃ (z : Int) (k : Nat), k ≤ ol ∧ i = .int .i64 k ∧ n = .int .i64 z) (fun _ i => ol - (intOf i).toNat)
  case atStart => exact ⟨_, 0, Nat.zero_le _, rfl, rfl⟩
  case round =>
    obtain ⟨z, k, hk, rfl, rfl⟩ := hrel
    by_cases hlt : k < ol
    · obtain ⟨b, off, rfl, hb, hc⟩ := O1.out (by omega)
      obtain ⟨x, y, u, hx, hy, hu, hxs, hys⟩ := hc k hlt
      clear hc O1
      go_wp2
      all_goals first | (go_ret; exact ⟨.no, (Below.refl _ _).alloc (Nat.le_refl _) _⟩) | skip
      go_round
      case rel => exact ⟨_, k + 1, by omega, by go_num, rfl⟩
      case measure => simp [intOf]; omega
    · clear O1
      go_wp2
      all_goals first | (go_ret; exact ⟨.no, (Below.refl _ _).alloc (Nat.le_refl _) _⟩) | skip
      go_loop [3, 5] (fun n i => ∃ (z : Int) (k : Nat), k ≤ al1 ∧ i = .int .i64 k ∧ n = .int .i64 z) (fun _ i => al1 - (intOf i).toNat)
      case atStart => exact ⟨_, 0, Nat.zero_le _, rfl, rfl⟩
      case round =>
        obtain ⟨z, k, hk, rfl, rfl⟩ := hrel
        by_cases hlt : k < al1
        · obtain ⟨b, off, rfl, hb, hc⟩ := O2.out (by omega)
          obtain ⟨x, hx, hxs⟩ := hc k hlt
          clear hc O2
          go_wp2
          all_goals first | (go_ret; exact ⟨.no, (Below.refl _ _).alloc (Nat.le_refl _) _⟩) | skip
          go_round
          case rel => exact ⟨_, k + 1, by omega, by go_num, rfl⟩
          case measure => simp [intOf]; omega
        · clear O2
          go_wp2
          all_goals first | (go_ret; exact ⟨.no, (Below.refl _ _).alloc (Nat.le_refl _) _⟩) | skip
          go_loop [3, 6] (fun n i => ∃ (z : Int) (k : Nat), k ≤ gl ∧ i = .int .i64 k ∧ n = .int .i64 z) (fun _ i => gl - (intOf i).toNat)
          case atStart => exact ⟨_, 0, Nat.zero_le _, rfl, rfl⟩
          case round =>
            obtain ⟨z, k, hk, rfl, rfl⟩ := hrel
            by_cases hlt : k < gl
            · obtain ⟨b, off, rfl, hb, hc⟩ := O3.out (by omega)
              obtain ⟨⟨xa, xl, xc⟩, hx, hxs⟩ := hc k hlt
              have xo := hxs.elem
              have xm := Nat.le_trans hxs.le hxs.max
              unfold maxLen at xm
              simp only at *
              clear hxs
              have XO : Hid _ := xo
              clear xo
              clear hc O3
              go_wp2
              all_goals first | (go_ret; exact ⟨.no, (Below.refl _ _).alloc (Nat.le_refl _) _⟩) | skip
              go_loop [3, 7] (fun n i => ∃ (z : Int) (k : Nat), k ≤ xl ∧ i = .int .i64 k ∧ n = .int .i64 z) (fun _ i => xl - (intOf i).toNat)
              case atStart => exact ⟨_, 0, Nat.zero_le _, rfl, rfl⟩
              case round =>
                obtain ⟨z, k2, hk2, rfl, rfl⟩ := hrel
                by_cases hlt2 : k2 < xl
                · obtain ⟨b2, off2, rfl, hb2, hc2⟩ := XO.out (by omega)
                  obtain ⟨x2, hx2, hxs2⟩ := hc2 k2 hlt2
                  clear hc2 XO
                  go_wp2
                  all_goals first | (go_ret; exact ⟨.no, (Below.refl _ _).alloc (Nat.le_refl _) _⟩) | skip
                  go_round
                  case rel => exact ⟨_, k2 + 1, by omega, by go_num, rfl⟩
                  case measure => simp [intOf]; omega
                · clear XO
                  go_wp2
                  go_round
                  case rel => exact ⟨_, k + 1, by omega, by go_num, rfl⟩
                  case measure => simp [intOf]; omega
            · clear O3
              go_wp2
              all_goals first | (go_ret; exact ⟨.no, (Below.refl _ _).alloc (Nat.le_refl _) _⟩) | skip
              go_loop [3, 8] (fun n i => ∃ (z : Int) (k : Nat), k ≤ il ∧ i = .int .i64 k ∧ n = .int .i64 z) (fun _ i => il - (intOf i).toNat)
              case atStart => exact ⟨_, 0, Nat.zero_le _, rfl, rfl⟩
              case round =>
                obtain ⟨z, k, hk, rfl, rfl⟩ := hrel
                by_cases hlt : k < il
                · obtain ⟨b, off, rfl, hb, hc⟩ := O4.out (by omega)
                  obtain ⟨x, y, hx, hy, hxs, hys⟩ := hc k hlt
                  clear hc O4
                  go_wp2
                  all_goals first | (go_ret; exact ⟨.no, (Below.refl _ _).alloc (Nat.le_refl _) _⟩) | skip
                  go_round
                  case rel => exact ⟨_, k + 1, by omega, by go_num, rfl⟩
                  case measure => simp [intOf]; omega
                · clear O4
                  go_wp2
                  all_goals first | (go_ret; exact ⟨.no, (Below.refl _ _).alloc (Nat.le_refl _) _⟩) | skip
                  go_loop [3, 9] (fun n i => ∃ (z : Int) (k : Nat), k ≤ ll ∧ i = .int .i64 k ∧ n = .int .i64 z) (fun _ i => ll - (intOf i).toNat)
                  case atStart => exact ⟨_, 0, Nat.zero_le _, rfl, rfl⟩
                  case round =>
                    obtain ⟨z, k, hk, rfl, rfl⟩ := hrel
                    by_cases hlt : k < ll
                    · obtain ⟨b, off, rfl, hb, hc⟩ := O5.out (by omega)
                      obtain ⟨x, y, hx, hy, hxs, hys⟩ := hc k hlt
                      clear hc O5
                      go_wp2
                      all_goals first | (go_ret; exact ⟨.no, (Below.refl _ _).alloc (Nat.le_refl _) _⟩) | skip
                      go_round
                      case rel => exact ⟨_, k + 1, by omega, by go_num, rfl⟩
                      case measure => simp [intOf]; omega
                    · clear O5
                      go_wp2
                      all_goals first | (go_ret; exact ⟨.no, (Below.refl _ _).alloc (Nat.le_refl _) _⟩) | skip
                      go_loop [3, 10] (fun n i => ∃ (z : Int) (k : Nat), k ≤ rl ∧ i = .int .i64 k ∧ n = .int .i64 z) (fun _ i => rl - (intOf i).toNat)
                      case atStart => exact ⟨_, 0, Nat.zero_le _, rfl, rfl⟩
                      case round =>
                        obtain ⟨z, k, hk, rfl, rfl⟩ := hrel
                        by_cases hlt : k < rl
                        · obtain ⟨b, off, rfl, hb, hc⟩ := O6.out (by omega)
                          obtain ⟨x, y, hx, hy, hxs, hys⟩ := hc k hlt
                          clear hc O6
                          go_wp2
                          all_goals first | (go_ret; exact ⟨.no, (Below.refl _ _).alloc (Nat.le_refl _) _⟩) | skip
                          go_round
                          case rel => exact ⟨_, k + 1, by omega, by go_num, rfl⟩
                          case measure => simp [intOf]; omega
                        · clear O6
                          go_wp2
                          all_goals first | (go_ret; exact ⟨.no, (Below.refl _ _).alloc (Nat.le_refl _) _⟩) | skip
                          go_loop [3, 11] (fun n i => ∃ (z : Int) (k : Nat), k ≤ kl ∧ i = .int .i64 k ∧ n = .int .i64 z) (fun _ i => kl - (intOf i).toNat)
                          case atStart => exact ⟨_, 0, Nat.zero_le _, rfl, rfl⟩
                          case round =>
                            obtain ⟨z, k, hk, rfl, rfl⟩ := hrel
                            by_cases hlt : k < kl
                            · obtain ⟨b, off, rfl, hb, hc⟩ := O7.out (by omega)
                              obtain ⟨x, hx, hxs⟩ := hc k hlt
                              clear hc O7
                              go_wp2
                              all_goals first | (go_ret; exact ⟨.no, (Below.refl _ _).alloc (Nat.le_refl _) _⟩) | skip
                              go_round
                              case rel => exact ⟨_, k + 1, by omega, by go_num, rfl⟩
                              case measure => simp [intOf]; omega
                            · clear O7
                              go_wp2
                              all_goals first | (go_ret; exact ⟨.no, (Below.refl _ _).alloc (Nat.le_refl _) _⟩) | skip
                              go_loop [3, 12] (fun n i => ∃ (z : Int) (k : Nat), k ≤ vl ∧ i = .int .i64 k ∧ n = .int .i64 z) (fun _ i => vl - (intOf i).toNat)
                              case atStart => exact ⟨_, 0, Nat.zero_le _, rfl, rfl⟩
                              case round =>
                                obtain ⟨z, k, hk, rfl, rfl⟩ := hrel
                                by_cases hlt : k < vl
                                · obtain ⟨b, off, rfl, hb, hc⟩ := O8.out (by omega)
                                  obtain ⟨x, hx, hxs⟩ := hc k hlt
                                  clear hc O8
                                  go_wp2
                                  all_goals first | (go_ret; exact ⟨.no, (Below.refl _ _).alloc (Nat.le_refl _) _⟩) | skip
                                  go_round
                                  case rel => exact ⟨_, k + 1, by omega, by go_num, rfl⟩
                                  case measure => simp [intOf]; omega
                                · clear O8
                                  go_wp2
                                  all_goals go_ret
                                  all_goals first | exact ⟨.no, (Below.refl _ _).alloc (Nat.le_refl _) _⟩ | exact ⟨.yes ⟨by simp only; omega, by simp only; omega, by simp only; omega, by simp only; omega, by simp only; omega, by simp only; omega⟩, (Below.refl _ _).alloc (Nat.le_refl _) _⟩

end Go.Proofs.Qxb6604414a
