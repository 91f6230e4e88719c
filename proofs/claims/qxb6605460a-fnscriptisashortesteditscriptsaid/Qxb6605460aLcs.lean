/-
  The seat b6605460a: zzDiffLCSInts (F16).
-/
import Derived.Test.Qxb6605460aLeaves
namespace Go.Proofs.Qxb6605460a
open Go.RowKit Go.Maps

theorem nth_set_eq {l : List Int} {k : Nat} (z : Int) (h : k < l.length) : nth (l.set k z) k = z := by
  simp [nth, List.getD, h]
theorem nth_set_ne {l : List Int} {k t : Nat} (z : Int) (h : k ≠ t) : nth (l.set k z) t = nth l t := by
  simp [nth, List.getD, h]
theorem nth_replicate (n k : Nat) : nth (List.replicate n 0) k = 0 := by
  unfold nth
  simp only [List.getD, List.getElem?_replicate]
  split <;> rfl

/-- The first t cells of C are row i of the table. -/
def RowTo (A B : List Int) (i t : Nat) (C : List Int) : Prop := C.length = B.length + 1 ∧ ∀ s, s < t → nth C s = (Plain.Lc (EI A B) i s : Int)

theorem RowTo.step {A B C : List Int} {i t : Nat} {z : Int} (h : RowTo A B i t C) (ht : t < B.length + 1) (hz : z = (Plain.Lc (EI A B) i t : Int)) : RowTo A B i (t + 1) (C.set t z) := by
  refine ⟨by rw [List.length_set]; exact h.1, fun s hs => ?_⟩
  by_cases e : s = t
  · subst e; rw [nth_set_eq z (by rw [h.1]; exact ht), hz]
  · rw [nth_set_ne z (fun e' => e e'.symm)]; exact h.2 s (by omega)

theorem RowTo.at {A B C : List Int} {i t s : Nat} (h : RowTo A B i t C) (hs : s < t) : nth C s = (Plain.Lc (EI A B) i s : Int) := h.2 s hs

theorem made_zero {w : World} {base n : Nat} {v : Value} (h : w.ownsRow base 3 1 v n (madeCells (Value.int .i64 0).cells (n * 1)).toList) : w.ownsInts base 3 .i64 v (List.replicate n 0) := by
  rw [made_one _ rfl] at h
  refine ⟨by simpa using h, fun z hz => ?_⟩
  have := List.eq_of_mem_replicate hz
  subst this; decide

/-- What the two rows are in memory. -/
def Two (base : Nat) (vp vc : Value) (P C : List Int) (wr : World) : Prop := wr.ownsInts base 3 .i64 vp P ∧ wr.ownsInts base 3 .i64 vc C ∧ vp.ownBlock ≠ vc.ownBlock

theorem Two.swap {base : Nat} {vp vc : Value} {P C : List Int} {wr : World} (h : Two base vp vc P C wr) : Two base vc vp C P wr := ⟨h.2.1, h.1, fun e => h.2.2 e.symm⟩

theorem Two.store {base : Nat} {vp vc : Value} {P C : List Int} {wr : World} (h : Two base vp vc P C wr) {k : Nat} (hk : k < C.length) {z : Int} (hz : (Lit.int .i64 z).wf = true) :
    Two base vp vc P (C.set k z) (wr.setCell ⟨blk vc, k, none⟩ (.int .i64 z)) ∧ wr.grownBy (wr.setCell ⟨blk vc, k, none⟩ (.int .i64 z)) vc.ownBlock := by
  obtain ⟨h1, h2, h3⟩ := h
  obtain ⟨g1, g2⟩ := stored_int h2 k hk z hz
  exact ⟨⟨h1.kept g2 (Or.inr h3), g1, h3⟩, g2⟩

theorem Two.below {base B : Nat} {w vp vc : _} {P C : List Int} {wr w' : World} (h : Two base vp vc P C wr) (hb : Below B w wr) (hB : B ≤ base) (hs : B ≤ wr.heap.size) (hg : wr.grownBy w' vc.ownBlock) : Below B w w' :=
  hb.grown hg hs (fun k hk => Nat.le_trans hB (h.2.1.1.lt k hk).1)

theorem lc_wf {A B : List Int} {i j : Nat} (h : i ≤ 1048576) : (Lit.int .i64 (Plain.Lc (EI A B) i j : Int)).wf = true := by
  have := (Plain.Lc_le (EI A B) i j).1
  exact WalkArith.wf_i64 (by omega)

theorem lc_hit {A B : List Int} {i j : Nat} (hi : i < A.length) (hj : j < B.length) (h : nth A i = nth B j) : (Plain.Lc (EI A B) (i + 1) (j + 1) : Int) = Plain.Lc (EI A B) i j + 1 := by
  rw [Plain.Lc_hit _ (EI_mk hi hj h)]; omega
theorem lc_up {A B : List Int} {i j : Nat} (h : ¬ nth A i = nth B j) (hc : (Plain.Lc (EI A B) (i + 1) j : Int) ≤ Plain.Lc (EI A B) i (j + 1)) : (Plain.Lc (EI A B) (i + 1) (j + 1) : Int) = Plain.Lc (EI A B) i (j + 1) := by
  rw [Plain.Lc_miss _ (EI_not h)]; omega
theorem lc_back {A B : List Int} {i j : Nat} (h : ¬ nth A i = nth B j) (hc : ¬ (Plain.Lc (EI A B) (i + 1) j : Int) ≤ Plain.Lc (EI A B) i (j + 1)) : (Plain.Lc (EI A B) (i + 1) (j + 1) : Int) = Plain.Lc (EI A B) (i + 1) j := by
  rw [Plain.Lc_miss _ (EI_not h)]; omega

theorem lcs_put {A B P C : List Int} {w wr : World} {u6 u7 : Value} {k j : Nat} {z : Int} (htwo : Two w.heap.size u6 u7 P C wr) (hr : RowTo A B (k + 1) j C) (hnx : Below w.heap.size w wr) (hj : j ≤ B.length) (hk : k + 1 ≤ 1048576) (hz : z = (Plain.Lc (EI A B) (k + 1) j : Int)) (q : Nat) :
    Two w.heap.size u6 u7 P (C.set j z) ((wr.drewN q).setCell ⟨blk u7, j, none⟩ (.int .i64 z)) ∧ RowTo A B (k + 1) (j + 1) (C.set j z) ∧ Below w.heap.size w ((wr.drewN q).setCell ⟨blk u7, j, none⟩ (.int .i64 z)) := by
  have hwf : (Lit.int .i64 z).wf = true := by rw [hz]; exact lc_wf hk
  have h2 : Two w.heap.size u6 u7 P C (wr.drewN q) := htwo
  obtain ⟨g1, g2⟩ := h2.store (k := j) (by rw [hr.1]; omega) hwf
  exact ⟨g1, hr.step (by omega) hz, h2.below (hnx.trans ⟨rfl, rfl, rfl, Nat.le_refl _, fun _ _ => rfl⟩) (Nat.le_refl _) hnx.size g2⟩

set_option maxHeartbeats 1500000 in
set_option maxRecDepth 100000 in
theorem lcs_any (va vb : Value) (A B : List Int) (w : World) {b2 b3 : Nat} {e2 e3 : TypeId} (ha : w.ownsInts b2 e2 .i64 va A) (hb : w.ownsInts b3 e3 .i64 vb B)
    (hA : A.length ≤ 1048575) (hB : B.length ≤ 1048575) :
    Calls Try.prog 16 #[va, vb] w fun e w' => e = .returned (.int .i64 (Plain.Lc (EI A B) A.length B.length : Int)) ∧ Below w.heap.size w w' := by
  have hla := len_eq (P := Try.prog) ha.1 22 Try.sl22
  have hlb := len_eq (P := Try.prog) hb.1 22 Try.sl22
  obtain ⟨i0, hi0, hz0, hz1, hz2⟩ := info_parts Try.info3
  have tokA : True := trivial
  go_enter Try.func16, Try.ntmps16
  go_wp2_with (first | (at_make; have _t := tokA; refine wpList_make_full _ rfl _ _ 22 rfl w.heap.size 3 i0 (.int .i64 0) 1 Try.underlying22 hi0 hz0 hz1 _ _ _ _ (B.length + 1) rfl rfl (by omega) (by omega) (by rw [hz2]; omega) (by unfold maxLen; omega) (Nat.le_refl _) ?_; intro w1 hown1 hgrow1; clear tokA) | (at_make; refine wpList_make_full _ rfl _ _ 22 rfl w.heap.size 3 i0 (.int .i64 0) 1 Try.underlying22 hi0 hz0 hz1 _ _ _ _ (B.length + 1) rfl rfl (by omega) (by omega) (by rw [hz2]; omega) (by unfold maxLen; omega) hgrow1.size ?_; intro w2 hown2 hgrow2))
  have ho1 := made_zero hown1
  have ho2 := made_zero hown2
  have hlt1 := (hown1.lt w.heap.size rfl).2
  have hb2 : Below w.heap.size w w2 := ((Below.refl _ _).grown hgrow1 (Nat.le_refl _) (fun j hj => by cases hj)).grown hgrow2 hgrow1.size (fun j hj => by cases hj)
  have htwo : Two w.heap.size (.slice (some ⟨w.heap.size, 0, none⟩) (B.length + 1) (B.length + 1)) (.slice (some ⟨w1.heap.size, 0, none⟩) (B.length + 1) (B.length + 1)) (List.replicate (B.length + 1) 0) (List.replicate (B.length + 1) 0) w2 :=
    ⟨ho1.kept hgrow2 (Or.inr (by simp [Value.ownBlock])), ho2, by simp [Value.ownBlock]; omega⟩
  have hr0 : RowTo A B 0 (B.length + 1) (List.replicate (B.length + 1) 0) := ⟨by simp, fun s _ => by rw [nth_replicate]; rfl⟩
  clear ho1 ho2 hown1 hown2 hgrow1 hgrow2 hlt1
  go_loopw [6, 7, 8] (fun vp vc iv wr => ∃ (k : Nat) (P C : List Int), k ≤ A.length ∧ iv = .int .i64 k ∧ Two w.heap.size vp vc P C wr ∧ RowTo A B k (B.length + 1) P ∧ C.length = B.length + 1 ∧ Below w.heap.size w wr) (fun _ _ iv _ => A.length - (intOf iv).toNat)
  case atStart => exact ⟨0, _, _, Nat.zero_le _, rfl, htwo, hr0, by simp, hb2⟩
  case round =>
    clear htwo hr0 hb2
    obtain ⟨k, P, C, hk, rfl, htwo, hrow, hCl, hnx⟩ := hrel
    by_cases hlt : k < A.length
    · have hixc := index_eq htwo.2.1.1 22 Try.sl22 Try.ce22 0 (by rw [hCl]; omega)
      simp only [Int.natCast_zero] at hixc
      have hfz := frozen_eq htwo.2.1.1 0 (by rw [hCl]; omega)
      obtain ⟨u, hu⟩ : ∃ u, wr.cell? ⟨blk u7, 0, none⟩ = some u := ⟨_, cell_int htwo.2.1 0 (by rw [hCl]; omega)⟩
      obtain ⟨htwo0, hg0⟩ := htwo.store (k := 0) (by rw [hCl]; omega) (z := 0) (by decide)
      have hb0 := htwo.below hnx (Nat.le_refl _) hnx.size hg0
      have hr1 : RowTo A B (k + 1) 1 (C.set 0 0) := by
        refine ⟨by rw [List.length_set]; exact hCl, fun s hs => ?_⟩
        have : s = 0 := by omega
        subst this
        rw [nth_set_eq 0 (by rw [hCl]; omega), Plain.Lc_left]; rfl
      clear htwo hCl hnx hg0
      go_wp2
      clear hixc hfz hu
      obtain ⟨wo, rfl⟩ : ∃ wo : World, wo = wr := ⟨_, rfl⟩
      go_loopw [9] (fun jv wr => ∃ (j : Nat) (C : List Int), 1 ≤ j ∧ j ≤ B.length + 1 ∧ jv = .int .i64 j ∧ Two w.heap.size u6 u7 P C wr ∧ RowTo A B (k + 1) j C ∧ Below w.heap.size w wr) (fun jv _ => B.length + 1 - (intOf jv).toNat)
      case atStart => exact ⟨1, _, Nat.le_refl _, by omega, rfl, htwo0, hr1, hb0⟩
      case round =>
        clear htwo0 hr1 hb0
        obtain ⟨j, C2, hj1, hj2, rfl, htwo, hr, hnx⟩ := hrel
        by_cases hjl : j ≤ B.length
        · obtain ⟨j', hj'⟩ : ∃ j', j = j' + 1 := ⟨j - 1, by omega⟩
          have HJ : Hid (j = j' + 1) := hj'
          have hj'B : j' < B.length := by omega
          have hC2l := hr.1
          have ha' := ownsInts_later ha hnx
          have hb' := ownsInts_later hb hnx
          have ixa := index_eq ha'.1 22 Try.sl22 Try.ce22 k hlt
          have ixb := index_at hb'.1 22 Try.sl22 Try.ce22 ((j : Int) - 1) j' (by omega) hj'B
          have ca := cell_int ha' k hlt
          have cb := cell_int hb' j' hj'B
          have ixp := index_eq htwo.1.1 22 Try.sl22 Try.ce22 j (by rw [hrow.1]; omega)
          have ixp1 := index_at htwo.1.1 22 Try.sl22 Try.ce22 ((j : Int) - 1) j' (by omega) (by rw [hrow.1]; omega)
          have cp := cell_int htwo.1 j (by rw [hrow.1]; omega)
          have cp1 := cell_int htwo.1 j' (by rw [hrow.1]; omega)
          have ixc := index_eq htwo.2.1.1 22 Try.sl22 Try.ce22 j (by rw [hC2l]; omega)
          have ixc1 := index_at htwo.2.1.1 22 Try.sl22 Try.ce22 ((j : Int) - 1) j' (by omega) (by rw [hC2l]; omega)
          have cc1 := cell_int htwo.2.1 j' (by rw [hC2l]; omega)
          have fz := frozen_eq htwo.2.1.1 j (by rw [hC2l]; omega)
          obtain ⟨u2, hu2⟩ : ∃ u, wr.cell? ⟨blk u7, j, none⟩ = some u := ⟨_, cell_int htwo.2.1 j (by rw [hC2l]; omega)⟩
          rw [hrow.at (by omega)] at cp cp1
          rw [hr.at (by omega)] at cc1
          have bp := (Plain.Lc_le (EI A B) k j').1
          clear ha' hb' hj'
          have HIT : Hid (nth A k = nth B j' → (Plain.Lc (EI A B) (k + 1) j : Int) = Plain.Lc (EI A B) k j' + 1) := by
            intro h; rw [HJ.out]; exact lc_hit hlt hj'B h
          have HUP : Hid (¬ nth A k = nth B j' → (Plain.Lc (EI A B) (k + 1) j' : Int) ≤ Plain.Lc (EI A B) k j → (Plain.Lc (EI A B) (k + 1) j : Int) = Plain.Lc (EI A B) k j) := by
            intro h; rw [HJ.out]; exact lc_up h
          have HBA : Hid (¬ nth A k = nth B j' → ¬ (Plain.Lc (EI A B) (k + 1) j' : Int) ≤ Plain.Lc (EI A B) k j → (Plain.Lc (EI A B) (k + 1) j : Int) = Plain.Lc (EI A B) (k + 1) j') := by
            intro h; rw [HJ.out]; exact lc_back h
          generalize Plain.Lc (EI A B) k j' = l1 at *
          generalize Plain.Lc (EI A B) k j = l2 at *
          generalize Plain.Lc (EI A B) (k + 1) j' = l3 at *
          by_cases heq : nth A k = nth B j'
          · have hq : (nth A k == nth B j') = true := by simp [heq]
            have HZ : Hid ((l1 : Int) + 1 = (Plain.Lc (EI A B) (k + 1) j : Int)) := (HIT.out heq).symm
            clear heq HIT HUP HBA
            go_wp2
            go_quiet (fail)
            go_wp2
            go_roundw
            case rel =>
              obtain ⟨g1, g2, g3⟩ := lcs_put htwo hr hnx hjl (by omega) HZ.out nq
              exact ⟨j + 1, _, by omega, by omega, by go_num, g1, g2, g3⟩
            case measure => simp [intOf]; omega
          · have hq : (nth A k == nth B j') = false := by simp [heq]
            by_cases hge : (l3 : Int) ≤ (l2 : Int)
            · have HZ : Hid ((l2 : Int) = (Plain.Lc (EI A B) (k + 1) j : Int)) := (HUP.out heq hge).symm
              clear heq HIT HUP HBA
              go_wp2
              go_quiet (fail)
              go_wp2
              go_quiet (fail)
              go_wp2
              go_roundw
              case rel =>
                obtain ⟨g1, g2, g3⟩ := lcs_put htwo hr hnx hjl (by omega) HZ.out _
                exact ⟨j + 1, _, by omega, by omega, by go_num, g1, g2, g3⟩
              case measure => simp [intOf]; omega
            · have HZ : Hid ((l3 : Int) = (Plain.Lc (EI A B) (k + 1) j : Int)) := (HBA.out heq hge).symm
              clear heq HIT HUP HBA
              go_wp2
              go_quiet (fail)
              go_wp2
              go_quiet (fail)
              go_wp2
              go_roundw
              case rel =>
                obtain ⟨g1, g2, g3⟩ := lcs_put htwo hr hnx hjl (by omega) HZ.out _
                exact ⟨j + 1, _, by omega, by omega, by go_num, g1, g2, g3⟩
              case measure => simp [intOf]; omega
        · have hje : j = B.length + 1 := by omega
          rw [hje] at hr
          go_wp2
          go_roundw
          case rel => exact ⟨k + 1, _, _, by omega, by go_num, htwo.swap, hr, hrow.1, hnx⟩
          case measure => simp [intOf]; omega
    · have hke : k = A.length := by omega
      subst hke
      have ixp := index_eq htwo.1.1 22 Try.sl22 Try.ce22 B.length (by rw [hrow.1]; omega)
      have cp := cell_int htwo.1 B.length (by rw [hrow.1]; omega)
      rw [hrow.at (by omega)] at cp
      go_wp2
      go_ret
      exact ⟨rfl, hnx⟩

end Go.Proofs.Qxb6605460a
