/-
  The seat b6605380a: quotePartB1 (F16).
-/
import Derived.Test.Qxb6605380aUnq
namespace Go.Proofs.Qxb6605380a
open Go.RowKit Go.Maps

theorem take_at {l : List Int} {k : Nat} (h : k < l.length) : l.take (k + 1) = l.take k ++ [nth l k] := by
  rw [List.take_succ_eq_append_getElem h, nth_eq h]

theorem dbl_hit {q : Int} {l : List Int} {k : Nat} (h : k < l.length) (hc : nth l k = q) : Plain.dbl q (l.take (k + 1)) = Plain.dbl q (l.take k) ++ [q] ++ [nth l k] := by
  rw [take_at h, Plain.dbl_snoc, if_pos hc]; simp
theorem dbl_miss {q : Int} {l : List Int} {k : Nat} (h : k < l.length) (hc : ¬ nth l k = q) : Plain.dbl q (l.take (k + 1)) = Plain.dbl q (l.take k) ++ [nth l k] := by
  rw [take_at h, Plain.dbl_snoc, if_neg hc]

set_option maxHeartbeats 1000000 in
theorem quote_any (v : Value) (zs : List Int) (s : ByteArray) (q : Int) (base : Nat) (w : World) (hown0 : ownsB w base v zs) (hq : (Lit.int .u8 q).wf = true) (hs : s.size ≤ 65536) (hz : zs.length ≤ 1048576) (hbase : base ≤ w.heap.size) :
    Calls Try.prog 16 #[v, .string s, .int .u8 q] w fun e w' => ∃ v', e = .returned v' ∧ ownsB w' base v' (zs ++ Plain.quoted q (bytes s)) ∧ Below base w w' := by
  obtain ⟨i0, hi, hz0, hz1, hz2⟩ := info_parts Try.info5
  have HBL : Hid ((bytes s).length = s.size) := bytes_len s
  go_enter Try.func16, Try.ntmps16
  go_wp2_with (at_builtin; refine wpList_append_b _ rfl _ _ 29 rfl base 5 i0 Try.underlying29 hi hz0 hz1 hz2 v zs rfl (hown0.alloc _) ⟨w.heap.size, 0, none⟩ q rfl (cell_new _ _ rfl _ _) hq (by omega) (by simp; omega) ?_; intro v1 w1 hown1 hgrow1)
  have hb1 := below_grown (Below.refl base w) hown0 (Nat.le_refl _) hbase _ hgrow1
  have hsz1 : base ≤ w1.heap.size := Nat.le_trans hbase hb1.size
  clear hown0 hgrow1
  go_loopw [0, 7] (fun vv i wr => ∃ k : Nat, k ≤ s.size ∧ i = .int .i64 k ∧ ownsB wr base vv (zs ++ [q] ++ Plain.dbl q ((bytes s).take k)) ∧ Below base w wr ∧ base ≤ wr.heap.size) (fun _ i _ => s.size - (intOf i).toNat)
  case atStart => exact ⟨0, Nat.zero_le _, rfl, by simpa [Plain.dbl] using hown1, hb1, hsz1⟩
  case round =>
    clear hown1 hb1 hsz1
    obtain ⟨k, hk, rfl, hown, hnx, hws⟩ := hrel
    have hdl := Plain.dbl_len q ((bytes s).take k)
    have hle : (zs ++ [q] ++ Plain.dbl q ((bytes s).take k)).length ≤ 1048576 + 1 + 2 * 65536 := by
      simp only [List.length_append, List.length_singleton, List.length_take] at hdl ⊢
      omega
    clear hdl
    by_cases hlt : k < s.size
    · have hix := index_eq (P := Try.prog) Try.underlying9 s k hlt
      have hkl : k < (bytes s).length := by rw [HBL.out]; exact hlt
      have hwf := nth_wf (bytes_wf s) hkl
      by_cases hc : nth (bytes s) k = q
      · have HE : Hid (Plain.dbl q ((bytes s).take (k + 1)) = Plain.dbl q ((bytes s).take k) ++ [q] ++ [nth (bytes s) k]) := dbl_hit hkl hc
        have hc' : (nth (bytes s) k == q) = true := by simp [hc]
        clear hc hkl
        generalize Plain.dbl q ((bytes s).take k) = D at *
        have tokA : True := trivial
        go_wp2_with (first | (at_builtin; have _t := tokA; refine wpList_append_b _ rfl _ _ 29 rfl base 5 i0 Try.underlying29 hi hz0 hz1 hz2 u0 (zs ++ [q] ++ D) rfl (hown.alloc _) ⟨wr.heap.size, 0, none⟩ q rfl (cell_new _ _ rfl _ _) hq (by omega) (by simp; omega) ?_; intro v1 w1 hown1 hgrow1; have hb1 := below_grown hnx hown (Nat.le_refl _) hws _ hgrow1; have hsz1 : base ≤ w1.heap.size := (by have h9 := hgrow1.size; simp at h9; omega); clear tokA) | (at_builtin; refine wpList_append_b _ rfl _ _ 29 rfl base 5 i0 Try.underlying29 hi hz0 hz1 hz2 v1 (zs ++ [q] ++ D ++ [q]) rfl (hown1.alloc _) ⟨w1.heap.size, 0, none⟩ (nth (bytes s) k) rfl (cell_new _ _ rfl _ _) hwf (by rw [List.length_append]; simp only [List.length_singleton]; omega) (by simp; omega) ?_; intro v2 w2 hown2 hgrow2))
        have hb2 := below_grown hb1 hown1 (Nat.le_refl _) hsz1 _ hgrow2
        have hsz2 : base ≤ w2.heap.size := by have h9 := hgrow2.size; simp at h9; omega
        go_roundw
        case rel =>
          refine ⟨k + 1, by omega, by go_num, ?_, hb2, hsz2⟩
          rw [HE.out]
          simpa using hown2
        case measure => simp [intOf]; omega
      · have HE : Hid (Plain.dbl q ((bytes s).take (k + 1)) = Plain.dbl q ((bytes s).take k) ++ [nth (bytes s) k]) := dbl_miss hkl hc
        have hc' : (nth (bytes s) k == q) = false := by simp [hc]
        clear hc hkl
        generalize Plain.dbl q ((bytes s).take k) = D at *
        go_wp2_with (at_builtin; refine wpList_append_b _ rfl _ _ 29 rfl base 5 i0 Try.underlying29 hi hz0 hz1 hz2 u0 (zs ++ [q] ++ D) rfl (hown.alloc _) ⟨wr.heap.size, 0, none⟩ (nth (bytes s) k) rfl (cell_new _ _ rfl _ _) hwf (by omega) (by simp; omega) ?_; intro v1 w1 hown1 hgrow1)
        have hb1 := below_grown hnx hown (Nat.le_refl _) hws _ hgrow1
        have hsz1 : base ≤ w1.heap.size := by have h9 := hgrow1.size; simp at h9; omega
        go_roundw
        case rel =>
          refine ⟨k + 1, by omega, by go_num, ?_, hb1, hsz1⟩
          rw [HE.out]
          simpa using hown1
        case measure => simp [intOf]; omega
    · have HT : Hid ((bytes s).take k = bytes s) := List.take_of_length_le (by rw [HBL.out]; omega)
      rw [HT.out] at hown hle
      generalize hD : Plain.dbl q (bytes s) = D at *
      have HDD := hD
      have HD2 : Hid (Plain.dbl q (bytes s) = D) := hD
      clear hD HDD
      go_wp2_with (at_builtin; refine wpList_append_b _ rfl _ _ 29 rfl base 5 i0 Try.underlying29 hi hz0 hz1 hz2 u0 (zs ++ [q] ++ D) rfl (hown.alloc _) ⟨wr.heap.size, 0, none⟩ q rfl (cell_new _ _ rfl _ _) hq (by omega) (by simp; omega) ?_; intro v1 w1 hown1 hgrow1)
      have hb1 := below_grown hnx hown (Nat.le_refl _) hws _ hgrow1
      go_ret
      refine ⟨v1, rfl, ?_, hb1⟩
      unfold Plain.quoted
      rw [HD2.out]
      simpa using hown1

end Go.Proofs.Qxb6605380a
