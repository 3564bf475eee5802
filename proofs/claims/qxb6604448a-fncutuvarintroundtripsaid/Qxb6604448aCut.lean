/-
  'cutUvarint', 'ZZcutUvarint'.
-/
import Derived.Test.Qxb6604448aUv
namespace Go.Proofs.Qxb6604448a
open Go.RowKit

def CutPost (s : Sl) (zs : List Int) (e : Ending) (w' : World) : Prop :=
  (∃ k, ∃ r : Sl, Good zs k ∧ e = .returned (.tuple #[.int .u64 (val (zs.take (k + 1))), .slice r.a r.len r.cap, .bool true]) ∧ BytesAt w' r (zs.drop (k + 1))) ∨
  ((∀ k, ¬ Good zs k) ∧ e = .returned (.tuple #[.int .u64 0, .slice s.a s.len s.cap, .bool false]))

theorem at_drop (zs : List Int) (n i : Nat) : at_ (zs.drop n) i = at_ zs (n + i) := by simp [at_, List.getD]

theorem rest_some {w : World} {b off len cap n : Nat} {zs : List Int} (hb : b < w.heap.size) (hn : n ≤ len) (hle : len ≤ cap) (hmx : cap ≤ maxLen) (hl : zs.length = len)
    (hc : ∀ i, i < len → w.cell? ⟨b, off + i, none⟩ = some (.int .u8 (at_ zs i))) : BytesAt w ⟨some ⟨b, off + n, none⟩, len - n, cap - n⟩ (zs.drop n) :=
  ⟨by simp only; omega, by simp only; omega, by simp [hl], fun _ => ⟨b, off + n, rfl, hb, fun i hi => by
    simp only at hi
    rw [at_drop, Nat.add_assoc]
    exact hc (n + i) (by omega)⟩⟩

theorem rest_none {w : World} {a : Option Addr} {len n : Nat} {zs : List Int} (hn : len ≤ n) (hl : zs.length = len) : BytesAt w ⟨a, len - n, 0⟩ (zs.drop n) := by
  have e : len - n = 0 := by omega
  refine ⟨by simp only; omega, Nat.zero_le _, by simp [hl], fun h => ?_⟩
  simp only at h
  omega

set_option maxHeartbeats 400000 in
theorem cut_any (s : Sl) (zs : List Int) (w : World) (h : BytesAt w s zs) (hz : Bytes zs) :
    Calls Try.prog 10 #[.slice s.a s.len s.cap] w fun e w' => CutPost s zs e w' ∧ ∃ d, w' = w.drewN d := by
  have H : Hid (BytesAt w s zs) := h
  have HU : Hid (Calls Try.prog 11 _ _ _) := uvarint_any s zs w h hz
  clear h hz
  go_enter Try.func10, Try.ntmps10
  go_wp2_with fail
  refine HU.out.mono ?_
  rintro e w1 ⟨hp, rfl⟩
  clear HU
  rcases hp with ⟨k, g, rfl⟩ | ⟨hb, z, hz, rfl⟩
  · have G : Hid _ := g
    have h0 := H.out.elem
    have hlt : k < s.len := by rw [← H.out.length]; exact g.lt
    have hle := H.out.le
    have hmx := H.out.max
    unfold maxLen at hmx
    obtain ⟨b, off, e, hbl, hc⟩ := H.out.elem (by omega)
    have HC : Hid _ := hc
    have HV : Hid _ := H.out.length
    clear g h0 hc H
    obtain ⟨a, len, cap⟩ := s
    simp only at *
    subst e
    go_wp2
    go_quiet (fail)
    go_wp2
    · go_ret3
      exact ⟨.inl ⟨k, ⟨some ⟨b, off, none⟩, len - (k + 1), 0⟩, G.out, rfl, rest_none (by omega) HV.out⟩, _, rfl⟩
    · go_ret3
      exact ⟨.inl ⟨k, ⟨some ⟨b, off + (k + 1), none⟩, len - (k + 1), cap - (k + 1)⟩, G.out, rfl, (rest_some hbl (by omega) hle (by unfold maxLen; omega) HV.out HC.out).below (drewN_below _ _)⟩, _, rfl⟩
  · have HB : Hid _ := hb
    clear hb
    go_wp2
    go_ret3
    exact ⟨.inr ⟨HB.out, rfl⟩, 0, rfl⟩

set_option maxHeartbeats 400000 in
theorem zzCut_any (s : Sl) (zs : List Int) (w : World) (h : BytesAt w s zs) (hz : Bytes zs) :
    Calls Try.prog 7 #[.slice s.a s.len s.cap] w fun e w' => CutPost s zs e w' ∧ ∃ d, w' = w.drewN d := by
  have HU : Hid (Calls Try.prog 10 _ _ _) := cut_any s zs w h hz
  clear h hz
  go_enter Try.func7, Try.ntmps7
  go_wp2_with fail
  refine HU.out.mono ?_
  rintro e w1 ⟨hp, d, rfl⟩
  clear HU
  rcases hp with ⟨k, r, g, rfl, hr⟩ | ⟨hb, rfl⟩
  · have X : Hid (_ ∧ _) := And.intro g hr
    clear g hr
    go_wp2
    go_ret3
    exact ⟨.inl ⟨k, r, X.out.1, rfl, X.out.2⟩, d, rfl⟩
  · have X : Hid _ := hb
    clear hb
    go_wp2
    go_ret3
    exact ⟨.inr ⟨X.out, rfl⟩, d, rfl⟩

end Go.Proofs.Qxb6604448a
