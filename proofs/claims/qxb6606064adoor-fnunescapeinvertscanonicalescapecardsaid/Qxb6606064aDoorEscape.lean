/-
  The seat b6606064aD: zzCanonicalEscape (F7).
-/
import Derived.Test.Qxb6606064aDoorLeaves
namespace Go.Proofs.Qxb6606064aDoor
open Go.RowKit Go.Maps

theorem shr4 (c : Int) : ∀ t, binOp .shr t (.int .u8 c) (.int .u64 4) = pure (.int .u8 (c / 16)) := by
  intro t
  rw [binOp_shr, shift_shr_u8 _ _ _ (by omega) (by omega)]
  rfl

theorem and15 {c : Int} (h0 : 0 ≤ c) (h1 : c < 32) : ∀ t, binOp .and t (.int .u8 c) (.int .u8 15) = pure (.int .u8 (c % 16)) := by
  intro t
  rw [binOp_and, intBits_and, u8_and15 c h0 (by omega)]

theorem esc_step {S : List Int} {k : Nat} (h : k < S.length) {r : List Int} (hr : Plain.esc (nth S k) = r) : Plain.ESC (S.take (k + 1)) = Plain.ESC (S.take k) ++ r := by
  rw [take_at h, Plain.ESC_snoc, hr]

theorem own_next {w : World} {B : Nat} {v : Value} {Z : List Int} {news : List Int} {m : Nat} (hm : news.length = m) (h : w.ownsRow B 5 1 v (Z.length + m) (Z.map (Value.int .u8) ++ news.map (Value.int .u8))) (hZ : ∀ z ∈ Z, (Lit.int .u8 z).wf = true) (hN : ∀ z ∈ news, (Lit.int .u8 z).wf = true) : w.ownsInts B 5 .u8 v (Z ++ news) := by
  subst hm
  refine ⟨by rw [List.length_append, List.map_append]; exact h, fun z hz => ?_⟩
  rcases List.mem_append.1 hz with h | h
  · exact hZ z h
  · exact hN z h

theorem escape_start (w w1 : World) (n : Nat) (h : w1.ownsRow w.heap.size 5 1 (.slice (some ⟨w.heap.size, 0, none⟩) 0 n) 0 []) : w1.ownsInts w.heap.size 5 .u8 (.slice (some ⟨w.heap.size, 0, none⟩) 0 n) [] :=
  ⟨h, by simp⟩

set_option maxHeartbeats 1600000 in
set_option maxRecDepth 100000 in
theorem escape_any (sv : Value) (S : List Int) (w : World) (hs : Reads w sv S) (hS : ∀ z ∈ S, (Lit.int .u8 z).wf = true) (hl : S.length ≤ 1048576) :
    Calls Tryd.prog 7 #[sv] w fun e w' => ∃ v, e = .returned v ∧ w'.ownsInts w.heap.size 5 .u8 v (Plain.ESC S) ∧ Below w.heap.size w w' := by
  obtain ⟨i0, hi, hz0, hz1, hz2⟩ := info_parts Tryd.info5
  have hln := hs.len
  go_enter Tryd.func7, Tryd.ntmps7
  go_wp2_with (at_make; refine wpList_make_own _ rfl _ _ 22 rfl w.heap.size 5 i0 (.int .u8 0) 1 Tryd.underlying22 hi hz0 hz1 _ _ _ S.length rfl rfl rfl (by rw [hz2]; omega) (by unfold maxLen; omega) (Nat.le_refl _) ?_; intro w1 hown1 hgrow1)
  have hb1 : Below w.heap.size w w1 := (Below.refl _ _).grown hgrow1 (Nat.le_refl _) (fun j hj => by cases hj)
  have hsz1 := hb1.size
  clear hgrow1
  go_loopw [3, 4] (fun v iv wr => ∃ k : Nat, k ≤ S.length ∧ iv = .int .i64 k ∧ wr.ownsInts w.heap.size 5 .u8 v (Plain.ESC (S.take k)) ∧ Below w.heap.size w wr) (fun _ iv _ => S.length - (intOf iv).toNat)
  case atStart => exact ⟨0, Nat.zero_le _, rfl, escape_start w w1 _ hown1, hb1⟩
  case round =>
    clear hown1 hb1 hsz1
    obtain ⟨k, hk, rfl, hown, hnx⟩ := hrel
    have hws := hnx.size
    have hzl : (Plain.ESC (S.take k)).length ≤ 6 * 1048576 := by
      have h1 := Plain.ESC_len (S.take k)
      have h2 : (S.take k).length ≤ S.length := by simp [List.length_take]; omega
      omega
    by_cases hlt : k < S.length
    · have hix := hs.index _ k rfl hlt
      have hcl : wr.cell? (adr sv k) = some (.int .u8 (nth S k)) := by
        rw [hnx.cell (block_lt (hs.cell k hlt))]; exact hs.cell k hlt
      have hcw := hS _ (nth_mem hlt)
      have hc0 := of_wf hcw
      have HST : Hid (∀ r, Plain.esc (nth S k) = r → Plain.ESC (S.take (k + 1)) = Plain.ESC (S.take k) ++ r) := fun r hr => esc_step hlt hr
      generalize hZ : Plain.ESC (S.take k) = Z at *
      generalize nth S k = c at *
      clear hZ
      by_cases c34 : c = 34
      · have HE : Hid (Plain.esc c = [92, 34]) := by show Plain.esc c = _; rw [c34]; decide
        have HN : Hid (∀ z ∈ [(92 : Int), 34], (Lit.int .u8 z).wf = true) := by show ∀ z ∈ [(92 : Int), 34], (Lit.int .u8 z).wf = true; decide
        rw [c34] at hcl
        clear c34 hcw hc0
        go_wp2_with (at_builtin; refine wpList_append_own _ rfl _ _ 22 rfl w.heap.size 5 i0 (.int .u8 0) 1 1 Tryd.underlying22 hi hz0 hz1 hz2 rfl (by decide) u3 Z.length (Z.map (Value.int .u8)) rfl (hown.1.alloc _) ⟨wr.heap.size, 0, none⟩ 2 2 [.int .u8 92, .int .u8 34] rfl rfl (cells_new _ _ rfl [.int .u8 92, .int .u8 34] _) (ints_oneCell .u8 [(92), (34)]) (by unfold maxLen; omega) (by omega) (by simp; omega) ?_; intro v1 w1 hown1 hgrow1 _)
        have hb1 := (hnx.alloc hws _).grown hgrow1 (by simp; omega) (fun j hj => (hown.1.lt j hj).1)
        have hon := own_next (news := [92, 34]) rfl hown1 hown.2 HN.out
        go_roundw
        case rel => exact ⟨k + 1, by omega, by go_num, by rw [HST.out _ HE.out]; exact hon, hb1⟩
        case measure => simp [intOf]; omega
      have n34 : (c == 34) = false := by simp [c34]
      have d34 : Hid (c ≠ 34) := c34
      clear c34
      by_cases c92 : c = 92
      · have HE : Hid (Plain.esc c = [92, 92]) := by show Plain.esc c = _; rw [c92]; decide
        have HN : Hid (∀ z ∈ [(92 : Int), 92], (Lit.int .u8 z).wf = true) := by show ∀ z ∈ [(92 : Int), 92], (Lit.int .u8 z).wf = true; decide
        rw [c92] at hcl
        clear c92 hcw hc0 n34 d34
        go_wp2_with (at_builtin; refine wpList_append_own _ rfl _ _ 22 rfl w.heap.size 5 i0 (.int .u8 0) 1 1 Tryd.underlying22 hi hz0 hz1 hz2 rfl (by decide) u3 Z.length (Z.map (Value.int .u8)) rfl (hown.1.alloc _) ⟨wr.heap.size, 0, none⟩ 2 2 [.int .u8 92, .int .u8 92] rfl rfl (cells_new _ _ rfl [.int .u8 92, .int .u8 92] _) (ints_oneCell .u8 [(92), (92)]) (by unfold maxLen; omega) (by omega) (by simp; omega) ?_; intro v1 w1 hown1 hgrow1 _)
        have hb1 := (hnx.alloc hws _).grown hgrow1 (by simp; omega) (fun j hj => (hown.1.lt j hj).1)
        have hon := own_next (news := [92, 92]) rfl hown1 hown.2 HN.out
        go_roundw
        case rel => exact ⟨k + 1, by omega, by go_num, by rw [HST.out _ HE.out]; exact hon, hb1⟩
        case measure => simp [intOf]; omega
      have n92 : (c == 92) = false := by simp [c92]
      have d92 : Hid (c ≠ 92) := c92
      clear c92
      by_cases c8 : c = 8
      · have HE : Hid (Plain.esc c = [92, 98]) := by show Plain.esc c = _; rw [c8]; decide
        have HN : Hid (∀ z ∈ [(92 : Int), 98], (Lit.int .u8 z).wf = true) := by show ∀ z ∈ [(92 : Int), 98], (Lit.int .u8 z).wf = true; decide
        rw [c8] at hcl
        clear c8 hcw hc0 n34 d34 n92 d92
        go_wp2_with (at_builtin; refine wpList_append_own _ rfl _ _ 22 rfl w.heap.size 5 i0 (.int .u8 0) 1 1 Tryd.underlying22 hi hz0 hz1 hz2 rfl (by decide) u3 Z.length (Z.map (Value.int .u8)) rfl (hown.1.alloc _) ⟨wr.heap.size, 0, none⟩ 2 2 [.int .u8 92, .int .u8 98] rfl rfl (cells_new _ _ rfl [.int .u8 92, .int .u8 98] _) (ints_oneCell .u8 [(92), (98)]) (by unfold maxLen; omega) (by omega) (by simp; omega) ?_; intro v1 w1 hown1 hgrow1 _)
        have hb1 := (hnx.alloc hws _).grown hgrow1 (by simp; omega) (fun j hj => (hown.1.lt j hj).1)
        have hon := own_next (news := [92, 98]) rfl hown1 hown.2 HN.out
        go_roundw
        case rel => exact ⟨k + 1, by omega, by go_num, by rw [HST.out _ HE.out]; exact hon, hb1⟩
        case measure => simp [intOf]; omega
      have n8 : (c == 8) = false := by simp [c8]
      have d8 : Hid (c ≠ 8) := c8
      clear c8
      by_cases c12 : c = 12
      · have HE : Hid (Plain.esc c = [92, 102]) := by show Plain.esc c = _; rw [c12]; decide
        have HN : Hid (∀ z ∈ [(92 : Int), 102], (Lit.int .u8 z).wf = true) := by show ∀ z ∈ [(92 : Int), 102], (Lit.int .u8 z).wf = true; decide
        rw [c12] at hcl
        clear c12 hcw hc0 n34 d34 n92 d92 n8 d8
        go_wp2_with (at_builtin; refine wpList_append_own _ rfl _ _ 22 rfl w.heap.size 5 i0 (.int .u8 0) 1 1 Tryd.underlying22 hi hz0 hz1 hz2 rfl (by decide) u3 Z.length (Z.map (Value.int .u8)) rfl (hown.1.alloc _) ⟨wr.heap.size, 0, none⟩ 2 2 [.int .u8 92, .int .u8 102] rfl rfl (cells_new _ _ rfl [.int .u8 92, .int .u8 102] _) (ints_oneCell .u8 [(92), (102)]) (by unfold maxLen; omega) (by omega) (by simp; omega) ?_; intro v1 w1 hown1 hgrow1 _)
        have hb1 := (hnx.alloc hws _).grown hgrow1 (by simp; omega) (fun j hj => (hown.1.lt j hj).1)
        have hon := own_next (news := [92, 102]) rfl hown1 hown.2 HN.out
        go_roundw
        case rel => exact ⟨k + 1, by omega, by go_num, by rw [HST.out _ HE.out]; exact hon, hb1⟩
        case measure => simp [intOf]; omega
      have n12 : (c == 12) = false := by simp [c12]
      have d12 : Hid (c ≠ 12) := c12
      clear c12
      by_cases c10 : c = 10
      · have HE : Hid (Plain.esc c = [92, 110]) := by show Plain.esc c = _; rw [c10]; decide
        have HN : Hid (∀ z ∈ [(92 : Int), 110], (Lit.int .u8 z).wf = true) := by show ∀ z ∈ [(92 : Int), 110], (Lit.int .u8 z).wf = true; decide
        rw [c10] at hcl
        clear c10 hcw hc0 n34 d34 n92 d92 n8 d8 n12 d12
        go_wp2_with (at_builtin; refine wpList_append_own _ rfl _ _ 22 rfl w.heap.size 5 i0 (.int .u8 0) 1 1 Tryd.underlying22 hi hz0 hz1 hz2 rfl (by decide) u3 Z.length (Z.map (Value.int .u8)) rfl (hown.1.alloc _) ⟨wr.heap.size, 0, none⟩ 2 2 [.int .u8 92, .int .u8 110] rfl rfl (cells_new _ _ rfl [.int .u8 92, .int .u8 110] _) (ints_oneCell .u8 [(92), (110)]) (by unfold maxLen; omega) (by omega) (by simp; omega) ?_; intro v1 w1 hown1 hgrow1 _)
        have hb1 := (hnx.alloc hws _).grown hgrow1 (by simp; omega) (fun j hj => (hown.1.lt j hj).1)
        have hon := own_next (news := [92, 110]) rfl hown1 hown.2 HN.out
        go_roundw
        case rel => exact ⟨k + 1, by omega, by go_num, by rw [HST.out _ HE.out]; exact hon, hb1⟩
        case measure => simp [intOf]; omega
      have n10 : (c == 10) = false := by simp [c10]
      have d10 : Hid (c ≠ 10) := c10
      clear c10
      by_cases c13 : c = 13
      · have HE : Hid (Plain.esc c = [92, 114]) := by show Plain.esc c = _; rw [c13]; decide
        have HN : Hid (∀ z ∈ [(92 : Int), 114], (Lit.int .u8 z).wf = true) := by show ∀ z ∈ [(92 : Int), 114], (Lit.int .u8 z).wf = true; decide
        rw [c13] at hcl
        clear c13 hcw hc0 n34 d34 n92 d92 n8 d8 n12 d12 n10 d10
        go_wp2_with (at_builtin; refine wpList_append_own _ rfl _ _ 22 rfl w.heap.size 5 i0 (.int .u8 0) 1 1 Tryd.underlying22 hi hz0 hz1 hz2 rfl (by decide) u3 Z.length (Z.map (Value.int .u8)) rfl (hown.1.alloc _) ⟨wr.heap.size, 0, none⟩ 2 2 [.int .u8 92, .int .u8 114] rfl rfl (cells_new _ _ rfl [.int .u8 92, .int .u8 114] _) (ints_oneCell .u8 [(92), (114)]) (by unfold maxLen; omega) (by omega) (by simp; omega) ?_; intro v1 w1 hown1 hgrow1 _)
        have hb1 := (hnx.alloc hws _).grown hgrow1 (by simp; omega) (fun j hj => (hown.1.lt j hj).1)
        have hon := own_next (news := [92, 114]) rfl hown1 hown.2 HN.out
        go_roundw
        case rel => exact ⟨k + 1, by omega, by go_num, by rw [HST.out _ HE.out]; exact hon, hb1⟩
        case measure => simp [intOf]; omega
      have n13 : (c == 13) = false := by simp [c13]
      have d13 : Hid (c ≠ 13) := c13
      clear c13
      by_cases c9 : c = 9
      · have HE : Hid (Plain.esc c = [92, 116]) := by show Plain.esc c = _; rw [c9]; decide
        have HN : Hid (∀ z ∈ [(92 : Int), 116], (Lit.int .u8 z).wf = true) := by show ∀ z ∈ [(92 : Int), 116], (Lit.int .u8 z).wf = true; decide
        rw [c9] at hcl
        clear c9 hcw hc0 n34 d34 n92 d92 n8 d8 n12 d12 n10 d10 n13 d13
        go_wp2_with (at_builtin; refine wpList_append_own _ rfl _ _ 22 rfl w.heap.size 5 i0 (.int .u8 0) 1 1 Tryd.underlying22 hi hz0 hz1 hz2 rfl (by decide) u3 Z.length (Z.map (Value.int .u8)) rfl (hown.1.alloc _) ⟨wr.heap.size, 0, none⟩ 2 2 [.int .u8 92, .int .u8 116] rfl rfl (cells_new _ _ rfl [.int .u8 92, .int .u8 116] _) (ints_oneCell .u8 [(92), (116)]) (by unfold maxLen; omega) (by omega) (by simp; omega) ?_; intro v1 w1 hown1 hgrow1 _)
        have hb1 := (hnx.alloc hws _).grown hgrow1 (by simp; omega) (fun j hj => (hown.1.lt j hj).1)
        have hon := own_next (news := [92, 116]) rfl hown1 hown.2 HN.out
        go_roundw
        case rel => exact ⟨k + 1, by omega, by go_num, by rw [HST.out _ HE.out]; exact hon, hb1⟩
        case measure => simp [intOf]; omega
      have n9 : (c == 9) = false := by simp [c9]
      have d9 : Hid (c ≠ 9) := c9
      clear c9
      by_cases c32 : c < 32
      · have HE : Hid (Plain.esc c = [92, 117, 48, 48, Plain.hx (c / 16), Plain.hx (c % 16)]) := by show Plain.esc c = _; unfold Plain.esc; rw [if_neg d34.out, if_neg d92.out, if_neg d8.out, if_neg d12.out, if_neg d10.out, if_neg d13.out, if_neg d9.out, if_pos c32]
        have HN : Hid (∀ z ∈ [(92 : Int), 117, 48, 48, Plain.hx (c / 16), Plain.hx (c % 16)], (Lit.int .u8 z).wf = true) := fun z hz => wf_of (Plain.esc_u8 (c := c) hc0.1 hc0.2 z (by rw [HE.out]; exact hz))
        have hsr := shr4 c
        have han := and15 hc0.1 c32
        have tokA : True := trivial
        go_wp2_with (first | (go_at_call 12; have _t := tokA; refine (hex_any (c / 16) _ (by omega) (by omega)).mono ?_; rintro e w' ⟨rfl, rfl⟩; clear tokA) | (go_at_call 12; refine (hex_any (c % 16) _ (by omega) (by omega)).mono ?_; rintro e w' ⟨rfl, rfl⟩) | (at_builtin; refine wpList_append_own _ rfl _ _ 22 rfl w.heap.size 5 i0 (.int .u8 0) 1 1 Tryd.underlying22 hi hz0 hz1 hz2 rfl (by decide) u3 Z.length (Z.map (Value.int .u8)) rfl (hown.1.alloc _) ⟨wr.heap.size, 0, none⟩ 6 6 [.int .u8 92, .int .u8 117, .int .u8 48, .int .u8 48, .int .u8 (Plain.hx (c / 16)), .int .u8 (Plain.hx (c % 16))] rfl rfl (cells_new _ _ rfl [.int .u8 92, .int .u8 117, .int .u8 48, .int .u8 48, .int .u8 (Plain.hx (c / 16)), .int .u8 (Plain.hx (c % 16))] _) (ints_oneCell .u8 [(92), (117), (48), (48), (Plain.hx (c / 16)), (Plain.hx (c % 16))]) (by unfold maxLen; omega) (by omega) (by simp; omega) ?_; intro v1 w1 hown1 hgrow1 _))
        have hb1 := (hnx.alloc hws _).grown hgrow1 (by simp; omega) (fun j hj => (hown.1.lt j hj).1)
        have hon := own_next (news := [92, 117, 48, 48, Plain.hx (c / 16), Plain.hx (c % 16)]) rfl hown1 hown.2 HN.out
        go_roundw
        case rel => exact ⟨k + 1, by omega, by go_num, by rw [HST.out _ HE.out]; exact hon, hb1⟩
        case measure => simp [intOf]; omega
      · have HE : Hid (Plain.esc c = [c]) := by show Plain.esc c = _; unfold Plain.esc; rw [if_neg d34.out, if_neg d92.out, if_neg d8.out, if_neg d12.out, if_neg d10.out, if_neg d13.out, if_neg d9.out, if_neg c32]
        have HN : Hid (∀ z ∈ [c], (Lit.int .u8 z).wf = true) := by intro z hz; simp at hz; subst hz; exact hcw
        go_wp2_with (at_builtin; refine wpList_append_own _ rfl _ _ 22 rfl w.heap.size 5 i0 (.int .u8 0) 1 1 Tryd.underlying22 hi hz0 hz1 hz2 rfl (by decide) u3 Z.length (Z.map (Value.int .u8)) rfl (hown.1.alloc _) ⟨wr.heap.size, 0, none⟩ 1 1 [.int .u8 (c)] rfl rfl (cells_new _ _ rfl [.int .u8 (c)] _) (ints_oneCell .u8 [(c)]) (by unfold maxLen; omega) (by omega) (by simp; omega) ?_; intro v1 w1 hown1 hgrow1 _)
        have hb1 := (hnx.alloc hws _).grown hgrow1 (by simp; omega) (fun j hj => (hown.1.lt j hj).1)
        have hon := own_next (news := [c]) rfl hown1 hown.2 HN.out
        go_roundw
        case rel => exact ⟨k + 1, by omega, by go_num, by rw [HST.out _ HE.out]; exact hon, hb1⟩
        case measure => simp [intOf]; omega
    · rw [List.take_of_length_le (by omega)] at hown
      go_wp2
      go_ret
      exact ⟨_, rfl, hown, hnx⟩

end Go.Proofs.Qxb6606064aDoor
