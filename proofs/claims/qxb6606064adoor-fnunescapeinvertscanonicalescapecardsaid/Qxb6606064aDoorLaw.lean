/-
  The seat b6606064aD: the law's walk (F3).
-/
import Derived.Test.Qxb6606064aDoorUnescape
namespace Go.Proofs.Qxb6606064aDoor
open Go.RowKit Go.Maps

theorem cut_first {w : World} {v : Value} {D S : List Int} (h : Reads w v (D ++ S)) : ∃ u, (∀ w', (Instr.slice 22 v none (some (.int .i64 (D.length : Int))) none).run Tryd.prog w' = .ok u w') ∧ Reads w u D := by
  have := h.cutH D.length (by simp)
  rwa [List.take_left] at this
theorem cut_rest {w : World} {v : Value} {D S : List Int} (h : Reads w v (D ++ S)) : ∃ u, (∀ w', (Instr.slice 22 v (some (.int .i64 (D.length : Int))) none none).run Tryd.prog w' = .ok u w') ∧ Reads w u S := by
  have := h.cutL D.length (by simp)
  rwa [List.drop_left] at this

set_option maxHeartbeats 1600000 in
set_option maxRecDepth 100000 in
theorem law_walk (a0 a1 : Option Addr) (n0 c0 n1 c1 : Nat) (z0 z1 : List Int) (w : World) (r0 : RowIn w a0 n0 c0 z0) (r1 : RowIn w a1 n1 c1 z1) :
    Calls Tryd.prog 3 #[.slice a0 n0 c0, .slice a1 n1 c1] w fun e w' => e = .returned (.bool true) ∧ Below w.heap.size w w' := by
  obtain ⟨m0, l0⟩ := r0.max
  obtain ⟨m1, l1⟩ := r1.max
  by_cases hs : n0 ≤ 1048576 ∧ n0 + n1 ≤ 1048576
  · have hd : decide (n0 ≤ 1048576 ∧ n0 + n1 ≤ 1048576) = true := by simp [hs]
    obtain ⟨g1, g2⟩ := hs
    have k1 : ¬ ((n0 : Int) > 1048576) := by omega
    have k2 : ¬ ((n1 : Int) > 1048576) := by omega
    have k3 : ¬ ((n0 : Int) + n1 > 1048576) := by omega
    have w1wf : ∀ z ∈ z1.take n1, (Lit.int .u8 z).wf = true := by
      rcases r1 with ⟨_, _, _, rfl⟩ | ⟨x, _, _, _, _, _, h6⟩
      · simp
      · exact fun z hz => h6 z (List.mem_of_mem_take hz)
    obtain ⟨D, hD⟩ : ∃ D, z0.take n0 = D := ⟨_, rfl⟩
    obtain ⟨S, hS⟩ : ∃ S, z1.take n1 = S := ⟨_, rfl⟩
    rw [hD] at l0
    rw [hS] at l1 w1wf
    have HD : Hid (z0.take n0 = D) := hD
    have HS : Hid (z1.take n1 = S) := hS
    have HL0 : Hid (D.length = n0) := l0
    have HL1 : Hid (S.length = n1) := l1
    clear hD hS l0 l1
    have dl : D.length ≤ 1048576 := by rw [HL0.out]; omega
    have sl : S.length ≤ 1048576 := by rw [HL1.out]; omega
    have tokA : True := trivial
    have tokB : True := trivial
    go_enter Tryd.func3, Tryd.ntmps3
    go_wp2_with (first
      | (go_at_call 5; refine (small_any a0 a1 n0 c0 n1 c1 _ m0 m1).mono ?_; rw [hd]; rintro e w' ⟨rfl, rfl⟩)
      | (go_at_call 6; have _t := tokA; refine (copy_any a0 n0 c0 z0 _ g1 r0).mono ?_; rintro e wd ⟨vd, rfl, hd0, hbd⟩; clear tokA; rw [HD.out] at hd0; have r1d := r1.later hbd; have hszd := hbd.size)
      | (go_at_call 6; refine (copy_any a1 n1 c1 z1 _ (by omega) r1d).mono ?_; rintro e ws ⟨vs, rfl, hs0, hbs⟩; rw [HS.out] at hs0; have hd1 := fun B => src_later (hd0 B) hbs; have hszs := hbs.size; have hlenS := (hs0 0).reads.len)
      | (go_at_call 7; refine (escape_any vs S _ (hs0 0).reads w1wf (by rw [HL1.out]; omega)).mono ?_; rintro e wn ⟨vn, rfl, hn0, hbn⟩; have hd2 := fun B => src_later (hd1 B) hbn; have hs1 := fun B => src_later (hs0 B) hbn; have hszn := hbn.size)
      | (go_at_call 8; refine (zzunescape_any vd vn D S _ (hd2 _) (Reads.of_own hn0) w1wf (by rw [HL0.out]; omega) (by rw [HL1.out]; omega)).mono ?_; rintro e wg ⟨vg, rfl, hg0, hbg⟩; have hd3 := fun B => src_later (hd2 B) hbg; have hs2 := fun B => src_later (hs1 B) hbg; have hszg := hbg.size; have hlg := hg0.reads.len; have hld := (hd3 0).reads.len; have hls := (hs2 0).reads.len; obtain ⟨u1, hc1, hr1⟩ := cut_first hg0.reads; obtain ⟨u2, hc2, hr2⟩ := cut_rest hg0.reads)
      | (go_at_call 9; have _t := tokB; refine (equal_any u1 vd D _ hr1 (hd3 0).reads (by omega)).mono ?_; rintro e we ⟨rfl, hbe⟩; clear tokB; have hr2' := hr2.later hbe; have hs3 := (hs2 0).reads.later hbe; have hsze := hbe.size)
      | (go_at_call 9; refine (equal_any u2 vs S _ hr2' hs3 (by omega)).mono ?_; rintro e wf ⟨rfl, hbf⟩))
    go_ret
    exact ⟨rfl, hbd.trans (below_wider (hbs.trans (below_wider (hbn.trans (below_wider (hbg.trans (below_wider (hbe.trans (below_wider hbf hsze)) hszg)) hszn)) hszs)) hszd)⟩
  · have hd : decide (n0 ≤ 1048576 ∧ n0 + n1 ≤ 1048576) = false := by simp; omega
    clear hs
    go_enter Tryd.func3, Tryd.ntmps3
    go_wp2_with (go_at_call 5; refine (small_any a0 a1 n0 c0 n1 c1 _ m0 m1).mono ?_; rw [hd]; rintro e w' ⟨rfl, rfl⟩)
    go_ret
    exact ⟨rfl, Below.refl _ _⟩

end Go.Proofs.Qxb6606064aDoor
