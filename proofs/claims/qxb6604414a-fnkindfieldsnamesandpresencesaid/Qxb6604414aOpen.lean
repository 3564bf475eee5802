/-
  THE ARGUMENT OPENED: from its reading to 'QIn' and 'QIn.ok'.
-/
import Derived.Test.Qxb6604414aBase
import Derived.Deep.Slices
import Derived.Deep.SlicePairs
import Derived.Deep.Strs
import Derived.Deep.Fields
import Derived.ProofKit
namespace Go.Proofs.Qxb6604414a
open Go.RowKit Go.Deep Go.ChangeShapes Go.WideShapes

theorem list3 {α : Type} {l : List α} (h : l.length = 3) : ∃ a b c, l = [a, b, c] := by
  match l, h with
  | [a, b, c], _ => exact ⟨a, b, c, rfl⟩

section
variable {H : Type} {enc : TypeId × Value → H} {w : World} {fuel : Nat} {v : Value} {x : DataW H × List MemPlace}

theorem plain_addr {a : Addr} {k : Nat} {u : Value} (h : w.cell? (a.add k) = some u) (hk : k = 0) : ∃ b off, a = ⟨b, off, none⟩ ∧ b < w.heap.size := by
  subst hk
  obtain ⟨b, off, spot⟩ := a
  have hs : spot = none := by simpa [Addr.add] using World.cell?_spot h
  subst hs
  rw [add_plain] at h
  exact ⟨b, off, rfl, World.block_lt_of_cell? _ _ h⟩

theorem str_of (h : DataW.trod enc Try.prog w 0 (fun _ => true) true fuel 9 [v] = some x) : ∃ s : ByteArray, v = .string s ∧ s.size ≤ maxLen := by
  obtain ⟨s, h1, _, h3⟩ := DataW.trod_string Try.underlying9 h
  exact ⟨s, by simpa using h1, h3⟩

theorem bool_of (h : DataW.trod enc Try.prog w 0 (fun _ => true) true fuel 4 [v] = some x) : ∃ b : Bool, v = .bool b := by
  obtain ⟨b, h1, _⟩ := DataW.trod_bool Try.underlying4 h
  exact ⟨b, by simpa using h1⟩

theorem ptr_of (h : DataW.trod enc Try.prog w 0 (fun _ => true) true fuel 43 [v] = some x) : ∃ a, v = .pointer a := by
  rcases DataW.trod_pointer Try.underlying43 h with ⟨h1, _⟩ | ⟨a, _, _, _, _, h1, _⟩
  · exact ⟨none, by simpa using h1⟩
  · exact ⟨some a, by simpa using h1⟩

theorem strs_of (h : DataW.trod enc Try.prog w 0 (fun _ => true) true fuel 22 [v] = some x) : ∃ s : Sl, v = .slice s.a s.len s.cap ∧ StrsAt w s := by
  rcases open_strs Try.underlying22 Try.underlying9 (by kernel_rfl) h with ⟨hcs, _⟩ | ⟨a, len, cap, m, Sx, hcs, _, hl, hm, hmm, _, hc⟩
  · exact ⟨⟨none, 0, 0⟩, by simpa using hcs, Nat.le_refl _, Nat.zero_le _, fun h => absurd h (Nat.lt_irrefl 0)⟩
  · simp only [if_true] at hmm
    subst hmm
    refine ⟨⟨some a, len, _⟩, by simpa using hcs, hl, hm, fun hp => ?_⟩
    simp only at hp ⊢
    obtain ⟨b, off, rfl, hb⟩ := plain_addr (hc 0 (by omega)).1 rfl
    refine ⟨b, off, rfl, hb, fun i hi => ⟨Sx i, ?_, (hc i (by omega)).2⟩⟩
    rw [← add_plain]
    exact (hc i (by omega)).1

theorem bytes_of (h : DataW.trod enc Try.prog w 0 (fun _ => true) true fuel 40 [v] = some x) : ∃ (s : Sl) (cb : List Int), v = .slice s.a s.len s.cap ∧ BytesAt w s cb := by
  rcases open_ints Try.underlying40 Try.underlying5 (by kernel_rfl) h with ⟨hcs, _⟩ | ⟨a, len, cap, zs, hcs, _, hl, hm, hz, _, hc, _⟩
  · exact ⟨⟨none, 0, 0⟩, [], by simpa using hcs, Nat.le_refl _, Nat.zero_le _, rfl, fun h => absurd h (Nat.lt_irrefl 0)⟩
  · simp only [if_true] at hz
    refine ⟨⟨some a, len, cap⟩, zs.take len, by simpa using hcs, hl, hm, by simp; omega, fun hp => ?_⟩
    simp only at hp ⊢
    obtain ⟨b, off, rfl, hb⟩ := plain_addr (hc 0 (by omega)) rfl
    refine ⟨b, off, rfl, hb, fun i hi => ?_⟩
    rw [← add_plain, hc i (by omega)]
    simp [List.getD, hi]

theorem gaps_of (h : DataW.trod enc Try.prog w 0 (fun _ => true) true fuel 41 [v] = some x) : ∃ s : Sl, v = .slice s.a s.len s.cap ∧ GapsAt w s := by
  rcases open_slice1 Try.underlying41 (by kernel_rfl) h with ⟨hcs, _⟩ | ⟨a, len, cap, m, n, V, D, Pl, hcs, _, hl, hm, hmm, _, hc⟩
  · exact ⟨⟨none, 0, 0⟩, by simpa using hcs, Nat.le_refl _, Nat.zero_le _, fun h => absurd h (Nat.lt_irrefl 0)⟩
  · simp only [if_true] at hmm
    subst hmm
    refine ⟨⟨some a, len, _⟩, by simpa using hcs, hl, hm, fun hp => ?_⟩
    simp only at hp ⊢
    obtain ⟨b, off, rfl, hb⟩ := plain_addr (hc 0 (by omega)).1 rfl
    refine ⟨b, off, rfl, hb, fun i hi => ?_⟩
    obtain ⟨h1, h2⟩ := hc i (by omega)
    obtain ⟨s, e, hs⟩ := strs_of h2
    exact ⟨s, by rw [← add_plain, h1, e], hs⟩

theorem its_of (h : DataW.trod enc Try.prog w 0 (fun _ => true) true fuel 42 [v] = some x) : ∃ s : Sl, v = .slice s.a s.len s.cap ∧ ItsAt w s := by
  rcases open_slice_pairs Try.underlying42 Try.underlying79 (by kernel_rfl) rfl rfl (by kernel_rfl) (by kernel_rfl) h with ⟨hcs, _⟩ | ⟨a, len, cap, m, n, V0, V1, D0, D1, P0, P1, hcs, _, hl, hm, hmm, _, hc⟩
  · exact ⟨⟨none, 0, 0⟩, by simpa using hcs, Nat.le_refl _, Nat.zero_le _, fun h => absurd h (Nat.lt_irrefl 0)⟩
  · simp only [if_true] at hmm
    subst hmm
    refine ⟨⟨some a, len, _⟩, by simpa using hcs, hl, hm, fun hp => ?_⟩
    simp only at hp ⊢
    obtain ⟨b, off, rfl, hb⟩ := plain_addr (hc 0 (by omega)).1 rfl
    refine ⟨b, off, rfl, hb, fun i hi => ?_⟩
    obtain ⟨h1, h2, h3, h4⟩ := hc i (by omega)
    obtain ⟨s0, e0, z0⟩ := str_of h3
    obtain ⟨s1, e1, z1⟩ := str_of h4
    rw [add_plain] at h1 h2
    exact ⟨s0, s1, by rw [h1, e0], by rw [Nat.add_assoc, h2, e1], z0, z1⟩

theorem opts_of (h : DataW.trod enc Try.prog w 0 (fun _ => true) true fuel 39 [v] = some x) : ∃ s : Sl, v = .slice s.a s.len s.cap ∧ OptsAt w s := by
  rcases open_slice Try.underlying39 h with ⟨hcs, _⟩ | ⟨a, len, cap, m, n, D, Pl, hcs, _, hl, hm, hmm, _, hc⟩
  · exact ⟨⟨none, 0, 0⟩, by simpa using hcs, Nat.le_refl _, Nat.zero_le _, fun h => absurd h (Nat.lt_irrefl 0)⟩
  · simp only [if_true] at hmm
    subst hmm
    rw [Try.cells77] at hc
    have each : ∀ i, i < len → ∃ (s0 s1 : ByteArray) (z : Bool), w.cell? (a.add (i * 3)) = some (.string s0) ∧ w.cell? (a.add (i * 3 + 1)) = some (.string s1) ∧ w.cell? (a.add (i * 3 + 2)) = some (.bool z) ∧ s0.size ≤ maxLen ∧ s1.size ≤ maxLen := by
      intro i hi
      obtain ⟨cs', h1, h2⟩ := hc i (by omega)
      obtain ⟨_, hlen, hcell⟩ := World.cells?_some h1
      obtain ⟨y0, y1, y2, k, _, _, g0, g1, g2⟩ := trod_struct3 Try.underlying77 h2
      have k9 : Try.prog.cellsOf 9 = 1 := by kernel_rfl
      have k4 : Try.prog.cellsOf 4 = 1 := by kernel_rfl
      obtain ⟨v0, v1, v2, rfl⟩ := list3 hlen
      simp only [k9, k4, List.drop_zero, List.drop_succ_cons, List.take_succ_cons, List.take_zero] at g0 g1 g2
      obtain ⟨s0, e0, z0⟩ := str_of g0
      obtain ⟨s1, e1, z1⟩ := str_of g1
      obtain ⟨z, e2⟩ := bool_of g2
      have c0 := hcell 0 (by omega)
      have c1 := hcell 1 (by omega)
      have c2 := hcell 2 (by omega)
      rw [Deep.add_add] at c0 c1 c2
      subst e0 e1 e2
      exact ⟨s0, s1, z, by simpa using c0, by simpa using c1, by simpa using c2, z0, z1⟩
    refine ⟨⟨some a, len, _⟩, by simpa using hcs, hl, hm, fun hp => ?_⟩
    simp only at hp ⊢
    obtain ⟨_, _, _, q0, _⟩ := each 0 hp
    obtain ⟨b, off, rfl, hb⟩ := plain_addr q0 rfl
    refine ⟨b, off, rfl, hb, fun i hi => ?_⟩
    obtain ⟨s0, s1, z, h1, h2, h3, z0, z1⟩ := each i hi
    rw [add_plain] at h1 h2 h3
    exact ⟨s0, s1, z, h1, by rw [Nat.add_assoc, h2], by rw [Nat.add_assoc, h3], z0, z1⟩

end

set_option maxRecDepth 100000 in
theorem list17 {α : Type} {cs : Array α} (h : cs.size = 17) : ∃ a0 a1 a2 a3 a4 a5 a6 a7 a8 a9 a10 a11 a12 a13 a14 a15 a16, cs = #[a0, a1, a2, a3, a4, a5, a6, a7, a8, a9, a10, a11, a12, a13, a14, a15, a16] := by
  obtain ⟨l⟩ := cs
  match l, h with
  | [a0, a1, a2, a3, a4, a5, a6, a7, a8, a9, a10, a11, a12, a13, a14, a15, a16], _ => exact ⟨_, _, _, _, _, _, _, _, _, _, _, _, _, _, _, _, _, rfl⟩

theorem field_at {H : Type} {enc : TypeId × Value → H} {w : World} {n i : Nat} {T : TypeId} {l : List Value} {xs : List (DataW H × List MemPlace)} {a : Value}
    (h : DataW.trod enc Try.prog w 0 (fun _ => true) true n T (List.take (Try.prog.cellsOf T) (List.drop i l)) = xs[i]?) (hx : i < xs.length) (hk : Try.prog.cellsOf T = 1) (hl : l[i]? = some a) :
    ∃ x, DataW.trod enc Try.prog w 0 (fun _ => true) true n T [a] = some x := by
  have e : List.take 1 (List.drop i l) = [a] := by
    obtain ⟨hi, rfl⟩ := List.getElem?_eq_some_iff.1 hl
    rw [List.drop_eq_getElem_cons hi]
    rfl
  rw [hk, e, List.getElem?_eq_getElem hx] at h
  exact ⟨_, h⟩

set_option maxRecDepth 100000 in
theorem open_q {H : Type} {enc : TypeId × Value → H} {w : World} {r : Reach} {b0 : Nat} {v : Value} {d : DataW H} {p : List MemPlace} (hv : Value.okWide Try.prog w r b0 45 v) (h : DataW.Trod enc Try.prog w 0 (fun _ => true) true 45 v d p) :
    ∃ q : QIn, v = .agg q.cells ∧ q.ok w := by
  obtain ⟨cs, rfl, hsz⟩ := okWide_struct Try.underlying45 hv
  obtain ⟨fuel, hf⟩ := h
  obtain ⟨xs, n, _, _, _, hlen, hfs⟩ := DataW.trod_struct Try.underlying45 hf
  obtain ⟨a0, a1, a2, a3, a4, a5, a6, a7, a8, a9, a10, a11, a12, a13, a14, a15, a16, rfl⟩ := list17 (hsz.trans (by kernel_rfl))
  clear hf hsz hv
  have hl17 : xs.length = 17 := hlen
  clear hlen
  have k4 : Try.prog.cellsOf 4 = 1 := by kernel_rfl
  have k9 : Try.prog.cellsOf 9 = 1 := by kernel_rfl
  have k22 : Try.prog.cellsOf 22 = 1 := by kernel_rfl
  have k39 : Try.prog.cellsOf 39 = 1 := by kernel_rfl
  have k40 : Try.prog.cellsOf 40 = 1 := by kernel_rfl
  have k41 : Try.prog.cellsOf 41 = 1 := by kernel_rfl
  have k42 : Try.prog.cellsOf 42 = 1 := by kernel_rfl
  have k43 : Try.prog.cellsOf 43 = 1 := by kernel_rfl
  obtain ⟨_, g0⟩ := field_at (i := 0) (T := 9) (hfs 0 _ rfl) (by rw [hl17]; omega) k9 rfl
  obtain ⟨_, g1⟩ := field_at (i := 1) (T := 9) (hfs 1 _ rfl) (by rw [hl17]; omega) k9 rfl
  obtain ⟨_, g2⟩ := field_at (i := 2) (T := 9) (hfs 2 _ rfl) (by rw [hl17]; omega) k9 rfl
  obtain ⟨_, g3⟩ := field_at (i := 3) (T := 39) (hfs 3 _ rfl) (by rw [hl17]; omega) k39 rfl
  obtain ⟨_, g4⟩ := field_at (i := 4) (T := 40) (hfs 4 _ rfl) (by rw [hl17]; omega) k40 rfl
  obtain ⟨_, g5⟩ := field_at (i := 5) (T := 9) (hfs 5 _ rfl) (by rw [hl17]; omega) k9 rfl
  obtain ⟨_, g6⟩ := field_at (i := 6) (T := 9) (hfs 6 _ rfl) (by rw [hl17]; omega) k9 rfl
  obtain ⟨_, g7⟩ := field_at (i := 7) (T := 22) (hfs 7 _ rfl) (by rw [hl17]; omega) k22 rfl
  obtain ⟨_, g8⟩ := field_at (i := 8) (T := 41) (hfs 8 _ rfl) (by rw [hl17]; omega) k41 rfl
  obtain ⟨_, g9⟩ := field_at (i := 9) (T := 42) (hfs 9 _ rfl) (by rw [hl17]; omega) k42 rfl
  obtain ⟨_, g10⟩ := field_at (i := 10) (T := 42) (hfs 10 _ rfl) (by rw [hl17]; omega) k42 rfl
  obtain ⟨_, g11⟩ := field_at (i := 11) (T := 42) (hfs 11 _ rfl) (by rw [hl17]; omega) k42 rfl
  obtain ⟨_, g12⟩ := field_at (i := 12) (T := 22) (hfs 12 _ rfl) (by rw [hl17]; omega) k22 rfl
  obtain ⟨_, g13⟩ := field_at (i := 13) (T := 22) (hfs 13 _ rfl) (by rw [hl17]; omega) k22 rfl
  obtain ⟨_, g14⟩ := field_at (i := 14) (T := 43) (hfs 14 _ rfl) (by rw [hl17]; omega) k43 rfl
  obtain ⟨_, g15⟩ := field_at (i := 15) (T := 9) (hfs 15 _ rfl) (by rw [hl17]; omega) k9 rfl
  obtain ⟨_, g16⟩ := field_at (i := 16) (T := 4) (hfs 16 _ rfl) (by rw [hl17]; omega) k4 rfl
  obtain ⟨s0, rfl, z0⟩ := str_of g0
  obtain ⟨s1, rfl, z1⟩ := str_of g1
  obtain ⟨s2, rfl, z2⟩ := str_of g2
  obtain ⟨s3, rfl, z3⟩ := opts_of g3
  obtain ⟨s4, cb, rfl, z4⟩ := bytes_of g4
  obtain ⟨s5, rfl, z5⟩ := str_of g5
  obtain ⟨s6, rfl, z6⟩ := str_of g6
  obtain ⟨s7, rfl, z7⟩ := strs_of g7
  obtain ⟨s8, rfl, z8⟩ := gaps_of g8
  obtain ⟨s9, rfl, z9⟩ := its_of g9
  obtain ⟨s10, rfl, z10⟩ := its_of g10
  obtain ⟨s11, rfl, z11⟩ := its_of g11
  obtain ⟨s12, rfl, z12⟩ := strs_of g12
  obtain ⟨s13, rfl, z13⟩ := strs_of g13
  obtain ⟨s14, rfl⟩ := ptr_of g14
  obtain ⟨s15, rfl, z15⟩ := str_of g15
  obtain ⟨s16, rfl⟩ := bool_of g16
  exact ⟨⟨s0, s1, s2, s3, s4, s5, s6, s7, s8, s9, s10, s11, s12, s13, s14, s15, s16, cb⟩, rfl, z3, z4, z7, z8, z9, z10, z11, z12, z13, z0, z1, z2, z5, z6, z15⟩

end Go.Proofs.Qxb6604414a
