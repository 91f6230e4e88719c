/-
  The seat b6605380a: unquotedModelB1 (F14), and the law FnUnquotedMatchesModel (F5).
-/
import Derived.Test.Qxb6605380aUnq
namespace Go.Proofs.Qxb6605380a
open Go.RowKit Go.Maps

theorem isqb_any (c : Int) (w : World) : Calls Try.prog 10 #[.int .u8 c] w fun e w' => e = .returned (.bool (Plain.isQ c)) ∧ w = w' := by
  by_cases h1 : c = 96
  · subst h1
    go_enter Try.func10, Try.ntmps10
    go_wp2
    go_ret
    exact ⟨rfl, rfl⟩
  · have h1' : (c == 96) = false := by simp [h1]
    have e : Plain.isQ c = (c == 34) := by unfold Plain.isQ; rw [h1']; simp
    rw [e]
    clear h1 e
    go_enter Try.func10, Try.ntmps10
    go_wp2
    go_ret
    exact ⟨rfl, rfl⟩

theorem made_own {w w1 : World} {n : Nat} (h : w1.ownsRow w.heap.size 5 1 (.slice (some ⟨w.heap.size, 0, none⟩) 0 n) 0 []) : ownsB w1 w.heap.size (.slice (some ⟨w.heap.size, 0, none⟩) 0 n) [] := ⟨5, h, by simp⟩

set_option maxHeartbeats 2000000 in
set_option maxRecDepth 100000 in
theorem model_some (s : ByteArray) (w : World) (hs : s.size ≤ 1048576) (h0 : 0 < s.size) :
    Calls Try.prog 14 #[.string s] w fun e w' => e = .returned (.tuple #[.string (strOfNums (Plain.unq 0 false [] (bytes s)).1), .bool (Plain.unq 0 false [] (bytes s)).2]) ∧ Below w.heap.size w w' := by
  obtain ⟨i0, hi, hz0, hz1, hz2⟩ := info_parts Try.info5
  have hne : ((s.size : Int) == 0) = false := by rw [beq_eq_false_iff_ne]; omega
  obtain ⟨R, hR⟩ : ∃ R, R = Plain.unq 0 false [] (bytes s) := ⟨_, rfl⟩
  rw [← hR]
  have HR : Hid (Plain.unq 0 false [] ((bytes s).drop 0) = R) := by rw [List.drop_zero]; exact hR.symm
  clear hR
  have HBL : Hid ((bytes s).length = s.size) := bytes_len s
  go_enter Try.func14, Try.ntmps14
  go_wp2_with (at_make; refine wpList_make_own _ rfl _ _ 29 rfl w.heap.size 5 i0 (.int .u8 0) 1 Try.underlying29 hi hz0 hz1 _ _ _ s.size rfl rfl rfl (by rw [hz2]; omega) (by unfold maxLen; omega) (Nat.le_refl _) ?_; intro w1 hown1 hgrow1)
  have hb1 : Below w.heap.size w w1 := (Below.refl _ _).grown hgrow1 (Nat.le_refl _) (fun j hj => by cases hj)
  clear hne hgrow1
  go_loopw [4, 5, 6] (fun v dv i wr => ∃ (k : Nat) (d : Bool) (out : List Int), k ≤ s.size ∧ i = .int .i64 k ∧ dv = .bool d ∧ ownsB wr w.heap.size v out ∧ out.length ≤ k ∧ Below w.heap.size w wr ∧ Plain.unq 0 d out ((bytes s).drop k) = R) (fun _ _ i _ => s.size - (intOf i).toNat)
  case atStart => exact ⟨0, false, [], Nat.zero_le _, rfl, rfl, made_own hown1, Nat.le_refl _, hb1, HR.out⟩
  case round =>
    clear HR hown1 hb1
    obtain ⟨k, d, out, hk, rfl, rfl, hown, hol, hnx, heq⟩ := hrel
    have HQ : Hid (Plain.unq 0 d out ((bytes s).drop k) = R) := heq
    clear heq
    have hws := hnx.size
    by_cases hlt : k < s.size
    · have hix := index_eq (P := Try.prog) Try.underlying9 s k hlt
      have hkl : k < (bytes s).length := by rw [HBL.out]; exact hlt
      have hwf := nth_wf (bytes_wf s) hkl
      have HD : Hid ((bytes s).drop k = nth (bytes s) k :: (bytes s).drop (k + 1)) := drop_at hkl
      clear hkl
      cases hc : Plain.isQ (nth (bytes s) k) with
      | false =>
        have HE : Hid (Plain.unq 0 (d || nth (bytes s) k == 46) (out ++ [nth (bytes s) k]) ((bytes s).drop (k + 1)) = R) := by
          show _ = R
          rw [← HQ.out, HD.out, Plain.unq_bare d out _ hc]
        cases h46 : (nth (bytes s) k == 46) with
        | true =>
          rw [h46, Bool.or_true] at HE
          go_wp2_with (first | (go_at_call 10; refine (isqb_any _ _).mono ?_; rw [hc]; rintro e w' ⟨rfl, rfl⟩) | (at_builtin; refine wpList_append_b _ rfl _ _ 29 rfl w.heap.size 5 i0 Try.underlying29 hi hz0 hz1 hz2 u4 out rfl (hown.alloc _) ⟨wr.heap.size, 0, none⟩ (nth (bytes s) k) rfl (cell_new _ _ rfl _ _) hwf (by omega) (by simp; omega) ?_; intro v1 w1 hown1 hgrow1))
          have hb1 := below_grown hnx hown (Nat.le_refl _) (by omega) _ hgrow1
          go_roundw
          case rel => exact ⟨k + 1, true, out ++ [nth (bytes s) k], by omega, by go_num, rfl, hown1, by simp; omega, hb1, HE.out⟩
          case measure => simp [intOf]; omega
        | false =>
          rw [h46, Bool.or_false] at HE
          go_wp2_with (first | (go_at_call 10; refine (isqb_any _ _).mono ?_; rw [hc]; rintro e w' ⟨rfl, rfl⟩) | (at_builtin; refine wpList_append_b _ rfl _ _ 29 rfl w.heap.size 5 i0 Try.underlying29 hi hz0 hz1 hz2 u4 out rfl (hown.alloc _) ⟨wr.heap.size, 0, none⟩ (nth (bytes s) k) rfl (cell_new _ _ rfl _ _) hwf (by omega) (by simp; omega) ?_; intro v1 w1 hown1 hgrow1))
          have hb1 := below_grown hnx hown (Nat.le_refl _) (by omega) _ hgrow1
          go_roundw
          case rel => exact ⟨k + 1, d, out ++ [nth (bytes s) k], by omega, by go_num, rfl, hown1, by simp; omega, hb1, HE.out⟩
          case measure => simp [intOf]; omega
      | true =>
        have HC0 : Hid (nth (bytes s) k ≠ 0) := by
          intro e
          rw [e] at hc
          simp [Plain.isQ] at hc
        have HE : Hid (Plain.unq (nth (bytes s) k) d out ((bytes s).drop (k + 1)) = R) := by
          show _ = R
          rw [← HQ.out, HD.out, Plain.unq_open d out _ hc]
        clear HQ HD
        obtain ⟨c, hcc⟩ : ∃ c, c = nth (bytes s) k := ⟨_, rfl⟩
        rw [← hcc] at HC0 HE hix hwf hc
        clear hcc
        go_wp2_with (go_at_call 10; refine (isqb_any _ _).mono ?_; rw [hc]; rintro e w' ⟨rfl, rfl⟩)
        clear hix hc
        obtain ⟨wo, rfl⟩ : ∃ wo : World, wo = wr := ⟨_, rfl⟩
        go_loopw [4, 8, 9] (fun v jv cv wr => ∃ (j : Nat) (cl : Bool) (out : List Int), k < j ∧ j ≤ s.size ∧ jv = .int .i64 j ∧ cv = .bool cl ∧ ownsB wr w.heap.size v out ∧ out.length ≤ j ∧ Below w.heap.size w wr ∧ Plain.unq (if cl then 0 else c) d out ((bytes s).drop j) = R) (fun _ jv _ _ => s.size - (intOf jv).toNat)
        case atStart => exact ⟨k + 1, false, out, by omega, by omega, by go_num, rfl, hown, by omega, hnx, HE.out⟩
        case round =>
          clear HE hown hol hnx hws
          obtain ⟨j, cl, out2, hkj, hj, rfl, rfl, hown, hol, hnx, heq⟩ := hrel
          have hws := hnx.size
          cases cl with
          | true =>
            have HF : Hid (Plain.unq 0 d out2 ((bytes s).drop j) = R) := heq
            clear heq
            by_cases hjl : j < s.size
            · go_wp2
              go_roundw
              case rel => exact ⟨j, d, out2, by omega, rfl, rfl, hown, by omega, hnx, HF.out⟩
              case measure => simp [intOf]; omega
            · go_wp2
              go_roundw
              case rel => exact ⟨j, d, out2, by omega, rfl, rfl, hown, by omega, hnx, HF.out⟩
              case measure => simp [intOf]; omega
          | false =>
            have HF : Hid (Plain.unq c d out2 ((bytes s).drop j) = R) := heq
            clear heq
            by_cases hjl : j < s.size
            · have hixj := index_eq (P := Try.prog) Try.underlying9 s j hjl
              have hkl : j < (bytes s).length := by rw [HBL.out]; exact hjl
              have hwfj := nth_wf (bytes_wf s) hkl
              have HD : Hid ((bytes s).drop j = nth (bytes s) j :: (bytes s).drop (j + 1)) := drop_at hkl
              clear hkl
              by_cases hcj : nth (bytes s) j = c
              · have hcj' : (nth (bytes s) j != c) = false := by simp [hcj]
                have HCJ : Hid (nth (bytes s) j = c) := hcj
                clear hcj
                by_cases hl2 : j + 1 < s.size
                · have hix2 := index_eq (P := Try.prog) Try.underlying9 s (j + 1) hl2
                  have e1 : ((j + 1 : Nat) : Int) = (j : Int) + 1 := by omega
                  rw [e1] at hix2
                  clear e1
                  have HD2 : Hid ((bytes s).drop (j + 1) = nth (bytes s) (j + 1) :: (bytes s).drop (j + 2)) := drop_at (by rw [HBL.out]; exact hl2)
                  have hlt1 : (j : Int) + 1 < (s.size : Int) := by omega
                  by_cases hc2 : nth (bytes s) (j + 1) = c
                  · have hc2' : (nth (bytes s) (j + 1) == c) = true := by simp [hc2]
                    have HE : Hid (Plain.unq c d (out2 ++ [c]) ((bytes s).drop (j + 2)) = R) := by
                      show _ = R
                      rw [← HF.out, HD.out, HD2.out, HCJ.out, hc2, Plain.unq_twice d out2 _ HC0.out]
                    clear hc2
                    go_wp2_with (at_builtin; refine wpList_append_b _ rfl _ _ 29 rfl w.heap.size 5 i0 Try.underlying29 hi hz0 hz1 hz2 u4 out2 rfl (hown.alloc _) ⟨wr.heap.size, 0, none⟩ c rfl (cell_new _ _ rfl _ _) hwf (by omega) (by simp; omega) ?_; intro v1 w1 hown1 hgrow1)
                    have hb1 := below_grown hnx hown (Nat.le_refl _) (by omega) _ hgrow1
                    go_roundw
                    case rel => exact ⟨j + 2, false, out2 ++ [c], by omega, by omega, by go_num, rfl, hown1, by simp; omega, hb1, HE.out⟩
                    case measure => simp [intOf]; omega
                  · have hc2' : (nth (bytes s) (j + 1) == c) = false := by simp [hc2]
                    have HE : Hid (Plain.unq 0 d out2 ((bytes s).drop (j + 1)) = R) := by
                      show _ = R
                      rw [← HF.out, HD.out, HCJ.out, Plain.unq_shut d out2 _ HC0.out (by rw [HD2.out]; simpa using hc2)]
                    clear hc2
                    go_wp2
                    go_roundw
                    case rel => exact ⟨j + 1, true, out2, by omega, by omega, by go_num, rfl, hown, by omega, hnx, HE.out⟩
                    case measure => simp [intOf]; omega
                · have HE : Hid (Plain.unq 0 d out2 ((bytes s).drop (j + 1)) = R) := by
                    show _ = R
                    have hd0 : (bytes s).drop (j + 1) = [] := List.drop_eq_nil_of_le (by rw [HBL.out]; omega)
                    rw [← HF.out, HD.out, HCJ.out, Plain.unq_shut d out2 _ HC0.out (by rw [hd0]; simp)]
                  have hlt1 : ¬ (j : Int) + 1 < (s.size : Int) := by omega
                  go_wp2
                  go_roundw
                  case rel => exact ⟨j + 1, true, out2, by omega, by omega, by go_num, rfl, hown, by omega, hnx, HE.out⟩
                  case measure => simp [intOf]; omega
              · have hcj' : (nth (bytes s) j != c) = true := by simp [hcj]
                have HE : Hid (Plain.unq c d (out2 ++ [nth (bytes s) j]) ((bytes s).drop (j + 1)) = R) := by
                  show _ = R
                  rw [← HF.out, HD.out, Plain.unq_in d out2 _ HC0.out hcj]
                clear hcj
                go_wp2_with (at_builtin; refine wpList_append_b _ rfl _ _ 29 rfl w.heap.size 5 i0 Try.underlying29 hi hz0 hz1 hz2 u4 out2 rfl (hown.alloc _) ⟨wr.heap.size, 0, none⟩ (nth (bytes s) j) rfl (cell_new _ _ rfl _ _) hwfj (by omega) (by simp; omega) ?_; intro v1 w1 hown1 hgrow1)
                have hb1 := below_grown hnx hown (Nat.le_refl _) (by omega) _ hgrow1
                go_roundw
                case rel => exact ⟨j + 1, false, out2 ++ [nth (bytes s) j], by omega, by omega, by go_num, rfl, hown1, by simp; omega, hb1, HE.out⟩
                case measure => simp [intOf]; omega
            · have HE : Hid (Plain.unq 0 d out2 ((bytes s).drop j) = R) := by
                show _ = R
                have hd0 : (bytes s).drop j = [] := List.drop_eq_nil_of_le (by rw [HBL.out]; omega)
                rw [← HF.out, hd0, Plain.unq_nil, Plain.unq_nil]
              go_wp2
              go_roundw
              case rel => exact ⟨j, d, out2, by omega, rfl, rfl, hown, by omega, hnx, HE.out⟩
              case measure => simp [intOf]; omega
    · have hd0 : (bytes s).drop k = [] := List.drop_eq_nil_of_le (by rw [HBL.out]; omega)
      have hRR : R = (out, d) := by rw [← HQ.out, hd0, Plain.unq_nil]
      subst hRR
      have hcv := conv_eq (P := Try.prog) wr Try.underlying29 Try.underlying5 Try.underlying9 hown
      clear hd0
      go_wp2
      go_ret2
      exact ⟨rfl, hnx⟩

set_option maxHeartbeats 400000 in
theorem model_empty (w : World) : Calls Try.prog 14 #[.string ⟨#[]⟩] w fun e w' => e = .returned (.tuple #[.string ⟨#[63]⟩, .bool false]) ∧ w = w' := by
  go_enter Try.func14, Try.ntmps14
  go_wp2
  go_ret2
  exact ⟨rfl, rfl⟩

end Go.Proofs.Qxb6605380a
