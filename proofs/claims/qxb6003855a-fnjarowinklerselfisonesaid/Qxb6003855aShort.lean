/-
  The seat b6003855a: matchShort.
-/
import Derived.Test.Qxb6003855aShortParts
namespace Go.Proofs.Qxb6003855a
open Go.RowKit Go.Maps

set_option maxHeartbeats 800000 in
set_option maxRecDepth 100000 in
theorem short_any (va vb : Value) (A B : List Int) (w : World) {b1 b2 : Nat} {e1 e2 : TypeId}
    (ha : w.ownsInts b1 e1 .i32 va A) (hb : w.ownsInts b2 e2 .i32 vb B) (hA : A.length ≤ 1048576) (hB : B.length ≤ 64) :
    Calls Try.prog 16 #[va, vb] w fun e w' => e = .returned (.tuple #[.int .i64 ((Plain.sto A B A.length).1.length : Int), .int .i64 ((ooT (Plain.sto A B A.length).1 B (Plain.sto A B A.length).2 B.length / 2 : Nat) : Int)]) ∧ Below w.heap.size w w' := by
  have hla := len_eq (P := Try.prog) ha.1 22 Try.sl22
  have hlb := len_eq (P := Try.prog) hb.1 22 Try.sl22
  have himx := fun (w : World) => @run_imax Try.prog w
  have himn := fun (w : World) => @run_imin Try.prog w
  have hbd := imax_bd A.length B.length hA (by omega)
  have hbd1 := hbd.1
  have hbd2 := hbd.2
  clear hbd
  have hwn := imax_win A.length B.length
  have hwb : Plain.win A.length B.length ≤ 1048576 := by unfold Plain.win; omega
  obtain ⟨wn, HW⟩ : ∃ wn, wn = Plain.win A.length B.length := ⟨_, rfl⟩
  rw [← HW] at hwn hwb
  have HWN : Hid (wn = Plain.win A.length B.length) := HW
  clear HW
  go_enter Try.func16, Try.ntmps16
  go_wp2
  clear hwn hbd1 hbd2
  have hst : S2 w (Plain.sto A B 0).2 (Plain.sto A B 0).1 _ := S2_start w B.length _ (show _ = _ from rfl)
  go_loopw [4, 22] (fun m i wr => ∃ k : Nat, k ≤ A.length ∧ i = .int .i64 k ∧ m = .int .i64 ((Plain.sto A B k).1.length : Int) ∧ S2 w (Plain.sto A B k).2 (Plain.sto A B k).1 wr) (fun _ i _ => A.length - (intOf i).toNat)
  case atStart => exact ⟨0, Nat.zero_le _, rfl, rfl, hst⟩
  case round =>
    clear hst
    obtain ⟨i, hi, rfl, rfl, hs2⟩ := hrel
    have hnx : Below w.heap.size w wr := hs2.2.2
    by_cases hlt : i < A.length
    · have ha' := ownsInts_later ha hnx
      have hb' := ownsInts_later hb hnx
      have hix := index_eq ha'.1 22 Try.sl22 Try.ce22 i hlt
      have hcx := cell_int ha' i hlt
      clear ha'
      obtain ⟨hf1, hf2, hf3⟩ := sto_facts A B i
      obtain ⟨lo, hlo, hno⟩ : ∃ lo : Nat, imax ((i : Int) - wn) 0 = (lo : Int) ∧ noneTo B (Plain.sto A B i).2 wn i (nth A i) lo ∧ (i : Int) - wn ≤ lo ∧ lo ≤ 1048576 := by
        refine ⟨i - wn, ?_, fun x hx => not_cand_early (by omega), by omega, by omega⟩
        unfold imax; split <;> omega
      obtain ⟨hno, hlo1, hlo2⟩ := hno
      have HNO : Hid (noneTo B (Plain.sto A B i).2 wn i (nth A i) lo) := hno
      have HF1 : Hid ((Plain.sto A B i).2.length = B.length) := hf1
      have HF2 : Hid ((Plain.sto A B i).1.length = Plain.cnt (Plain.sto A B i).2) := hf2
      have HS2 : Hid (S2 w (Plain.sto A B i).2 (Plain.sto A B i).1 wr) := hs2
      clear hno hf1 hf2
      have hmc : wr.cell? ⟨w.heap.size, 0, none⟩ = some (.int .u64 (mkv (Plain.sto A B i).2)) := cell_of_one hs2.1
      have hmf : wr.frozen? ⟨w.heap.size, 0, none⟩ = false := free_of_one hs2.1
      have hrow := hs2.2.1
      clear hs2
      go_wp2
      clear hlo himx hix hcx
      obtain ⟨wo, rfl⟩ : ∃ wo : World, wo = wr := ⟨_, rfl⟩
      go_loopw [4, 11] (fun m jv wr => ∃ j q : Nat, lo ≤ j ∧ j ≤ 2097153 ∧ jv = .int .i64 j ∧ m = .int .i64 ((Plain.sto A B i).1.length : Int) ∧ noneTo B (Plain.sto A B i).2 wn i (nth A i) j ∧ wr = wo.drewN q) (fun _ jv _ => 2097153 - (intOf jv).toNat)
      case atStart => exact ⟨lo, 0, Nat.le_refl _, by omega, rfl, rfl, HNO.out, rfl⟩
      case round =>
        obtain ⟨j, q, hj1, hj2, rfl, rfl, hnone, rfl⟩ := hrel
        have HNN : Hid (noneTo B (Plain.sto A B i).2 wn i (nth A i) j) := hnone
        clear hnone
        by_cases hjm : (j : Int) < imin ((i : Int) + wn + 1) B.length
        · obtain ⟨hja, hjb⟩ := lt_imin.1 hjm
          have hjB : j < B.length := by omega
          have hixb := index_eq hb'.1 22 Try.sl22 Try.ce22 j hjB
          have hclb := cell_int hb' j hjB
          have hsh : binOp .shl 36 (.int .u64 1) (.int .i64 (j : Int)) = pure (.int .u64 (bitv j)) := shl_eq (by omega)
          have hand : binOp .and 36 (.int .u64 (mkv (Plain.sto A B i).2)) (.int .u64 (bitv j)) = pure (.int .u64 (andv (Plain.sto A B i).2 j)) := and_eq (by rw [HF1.out]; exact hB) (by omega)
          have hz := andv_zero (Plain.sto A B i).2 j
          by_cases heq : nth B j = nth A i
          · have hq : (nth B j == nth A i) = true := by simp [heq]
            cases hbt : bth (Plain.sto A B i).2 j with
            | true =>
              rw [hbt] at hz
              have HNC : Hid (noneTo B (Plain.sto A B i).2 wn i (nth A i) (j + 1)) := noneTo_step HNN.out (not_cand_taken hbt)
              clear heq hbt
              go_wp2
              go_quiet (fail)
              go_wp2
              go_roundw
              case rel => exact ⟨j + 1, q + nq, by omega, by omega, by go_num, rfl, HNC.out, by simp⟩
              case measure => simp [intOf]; omega
            | false =>
              rw [hbt] at hz
              have HST : Hid (Plain.sto A B (i + 1) = ((Plain.sto A B i).1 ++ [nth A i], (Plain.sto A B i).2.set j true)) := sto_hit HWN.out HNN.out hjB (cand_of (by omega) hja heq hbt)
              have hroom : (Plain.sto A B i).1.length < 64 := by
                have := room_of (by rw [HF1.out]; exact hjB) hbt HF2.out
                rw [HF1.out] at this
                omega
              have hor : binOp .or 36 (.int .u64 (mkv (Plain.sto A B i).2)) (.int .u64 (bitv j)) = pure (.int .u64 (mkv ((Plain.sto A B i).2.set j true))) := or_eq (by rw [HF1.out]; exact hB) (by rw [HF1.out]; exact hjB)
              have hfz := hrow.frozenAt (Plain.sto A B i).1.length
              obtain ⟨u, hu⟩ : ∃ u, wo.cell? ⟨w.heap.size + 1, (Plain.sto A B i).1.length, none⟩ = some u := by
                refine ⟨(pad (Plain.sto A B i).1)[(Plain.sto A B i).1.length]'(by rw [pad_len _ (by omega)]; omega), ?_⟩
                rw [hrow.cellAt _ (by omega)]; simp
              clear heq hbt
              go_wp2
              go_quiet (fail)
              go_wp2
              go_region
              go_wp2
              go_roundw
              case rel =>
                refine ⟨i + 1, by omega, by go_num, ?_, ?_⟩
                · rw [HST.out]; simp
                · rw [HST.out]
                  exact S2_hit (S2_drewN HS2.out _) hroom
              case measure => simp [intOf]; omega
          · have hq : (nth B j == nth A i) = false := by simp [heq]
            have hnc := noneTo_step HNN.out (not_cand_ne heq)
            have HNC : Hid (noneTo B (Plain.sto A B i).2 wn i (nth A i) (j + 1)) := hnc
            clear hnc heq
            go_wp2
            go_quiet (fail)
            go_wp2
            go_roundw
            case rel => exact ⟨j + 1, q + nq, by omega, by omega, by go_num, rfl, HNC.out, by simp⟩
            case measure => simp [intOf]; omega
        · have HST : Hid (Plain.sto A B (i + 1) = Plain.sto A B i) := sto_miss HWN.out HNN.out (by
            rcases Nat.lt_or_ge j B.length with h1 | h1
            · right
              rcases Int.lt_or_le (j : Int) ((i : Int) + wn + 1) with h2 | h2
              · exact absurd (lt_imin.2 ⟨h2, by omega⟩) hjm
              · exact h2
            · exact Or.inl h1)
          go_wp2
          go_roundw
          case rel =>
            refine ⟨i + 1, by omega, by go_num, ?_, ?_⟩
            · rw [HST.out]
            · rw [HST.out]; exact S2_drewN HS2.out _
          case measure => simp [intOf]; omega
    · have hiA : i = A.length := by omega
      subst hiA
      obtain ⟨hf1, hf2, hf3⟩ := sto_facts A B A.length
      have HF1 : Hid ((Plain.sto A B A.length).2.length = B.length) := hf1
      have HF2 : Hid ((Plain.sto A B A.length).1.length = Plain.cnt (Plain.sto A B A.length).2) := hf2
      clear hf1 hf2
      have hb' := ownsInts_later hb hnx
      have hcut := S2_cut hs2 (by omega) (sto_wf (Nat.le_refl _) ha.2)
      have hmc : wr.cell? ⟨w.heap.size, 0, none⟩ = some (.int .u64 (mkv (Plain.sto A B A.length).2)) := cell_of_one hs2.1
      have hsl := cut_eq ⟨w.heap.size + 1, 0, none⟩ (Plain.sto A B A.length).1.length (by omega)
      go_wp2_with (go_at_call 18; refine (oo_short _ _ w.heap.size _ _ (Plain.sto A B A.length).2 wr hcut hb' (by rw [HF1.out]; exact hB) hmc HF1.out HF2.out).mono ?_; rintro e w' ⟨rfl, q, rfl⟩)
      go_ret2
      exact ⟨rfl, (S2_drewN hs2 q).2.2⟩

end Go.Proofs.Qxb6003855a
