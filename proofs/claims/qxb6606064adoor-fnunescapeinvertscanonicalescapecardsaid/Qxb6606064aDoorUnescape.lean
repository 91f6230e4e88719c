/-
  The seat b6606064aD: unescape (F13), ZZunescape (F8).
-/
import Derived.Test.Qxb6606064aDoorParse
import Derived.Test.Qxb6606064aDoorEscape
namespace Go.Proofs.Qxb6606064aDoor
open Go.RowKit Go.Maps

theorem tail_at {N : List Int} {k : Nat} {pre r : List Int} (hd : N.drop k = pre ++ r) {i : Nat} (hi : i < pre.length) :
    k + i < N.length ∧ nth N (k + i) = nth pre i := by
  have hl : (N.drop k).length = (pre ++ r).length := by rw [hd]
  simp only [List.length_drop, List.length_append] at hl
  refine ⟨by omega, ?_⟩
  have h1 : (N.drop k)[i]? = (pre ++ r)[i]? := by rw [hd]
  rw [List.getElem?_drop, List.getElem?_append_left hi] at h1
  simp only [nth, List.getD, h1]

theorem drop_next {N : List Int} {k : Nat} {pre r : List Int} (hd : N.drop k = pre ++ r) : N.drop (k + pre.length) = r := by
  rw [← List.drop_drop, hd, List.drop_left]

theorem four_of {N : List Int} {k : Nat} {a b c d e f : Int} {r : List Int} (hd : N.drop k = [a, b, c, d, e, f] ++ r) : (N.take (k + 6)).drop (k + 2) = [c, d, e, f] := by
  rw [List.drop_take, show k + 6 - (k + 2) = 4 by omega, ← List.drop_drop, hd]
  rfl

theorem below_wider {B B' : Nat} {w w' : World} (h : Below B w w') (hb : B' ≤ B) : Below B' w w' :=
  ⟨h.os, h.tape, h.output, h.size, fun k hk => h.block k (by omega)⟩

theorem src_next {w : World} {B : Nat} {v : Value} {D S : List Int} {j : Nat} (hj : j < S.length) {c : Int} (hc : nth S j = c) (h : Src w B v (D ++ S.take j ++ [c])) : Src w B v (D ++ S.take (j + 1)) := by
  rw [take_at hj, hc, ← List.append_assoc]; exact h

theorem src_later {w w' : World} {B : Nat} {v : Value} {zs : List Int} (h : Src w B v zs) (hb : Below w.heap.size w w') : Src w' B v zs := by
  refine ⟨?_, h.2⟩
  rcases h.1 with h | ⟨x, h1, h2⟩
  · exact Or.inl ⟨h.1.kept (show w.grownBy w' none from ⟨hb.os, hb.tape, hb.output, hb.size, fun k hk _ => hb.block k hk⟩) (by cases v.ownBlock <;> simp), h.2⟩
  · refine Or.inr ⟨x, h1, fun i hi => ?_⟩
    rw [hb.cell (block_lt (h2 i hi))]
    exact h2 i hi

set_option maxHeartbeats 2000000 in
set_option maxRecDepth 100000 in
theorem unescape_any (dv nv : Value) (D S : List Int) (w : World) (hdst : Src w w.heap.size dv D) (hname : Reads w nv (Plain.ESC S)) (hS : ∀ z ∈ S, (Lit.int .u8 z).wf = true) (hDl : D.length ≤ 1048576) (hSl : S.length ≤ 1048576) :
    Calls Tryd.prog 13 #[dv, nv] w fun e w' => ∃ v, e = .returned v ∧ Src w' w.heap.size v (D ++ S) ∧ Below w.heap.size w w' := by
  obtain ⟨i0, hi, hz0, hz1, hz2⟩ := info_parts Tryd.info5
  have hNl := Plain.ESC_len S
  obtain ⟨N, hN⟩ : ∃ N, Plain.ESC S = N := ⟨_, rfl⟩
  have HN0 : Hid (N.drop 0 = Plain.ESC (S.drop 0)) := hN.symm
  have HD0 : Hid (Src w w.heap.size dv (D ++ S.take 0)) := by show Src w w.heap.size dv (D ++ S.take 0); rw [List.take_zero, List.append_nil]; exact hdst
  rw [hN] at hname hNl
  clear hN hdst
  have hln := hname.len
  go_enter Tryd.func13, Tryd.ntmps13
  go_wp2
  go_loopw [0, 5] (fun v iv wr => ∃ k j : Nat, k ≤ N.length ∧ j ≤ S.length ∧ iv = .int .i64 k ∧ N.drop k = Plain.ESC (S.drop j) ∧ Src wr w.heap.size v (D ++ S.take j) ∧ Below w.heap.size w wr) (fun _ iv _ => N.length - (intOf iv).toNat)
  case atStart => exact ⟨0, 0, Nat.zero_le _, Nat.zero_le _, rfl, HN0.out, HD0.out, Below.refl _ _⟩
  case round =>
    clear HN0 HD0
    obtain ⟨k, j, hk, hj, rfl, hdr, hsrc, hnx⟩ := hrel
    have hws := hnx.size
    have hlen : (D ++ S.take j).length ≤ 2097152 := by simp only [List.length_append, List.length_take]; omega
    by_cases hlt : k < N.length
    · have hjl : j < S.length := by
        rcases Nat.lt_or_ge j S.length with h | h
        · exact h
        · rw [List.drop_eq_nil_of_le h] at hdr
          have h2 := congrArg List.length hdr
          simp [Plain.ESC] at h2
          omega
      rw [drop_at hjl] at hdr
      have hr := hname.later (w' := wr) hnx
      have hsw := hS _ (nth_mem hjl)
      have hs0 := of_wf hsw
      have HS : Hid (∀ v' w', Src w' w.heap.size v' (D ++ S.take j ++ [nth S j]) → Src w' w.heap.size v' (D ++ S.take (j + 1))) := fun v' w' h => src_next hjl rfl h
      have HDR : Hid (N.drop k = Plain.esc (nth S j) ++ Plain.ESC (S.drop (j + 1))) := hdr
      clear hdr
      generalize nth S j = c at *
      by_cases c34 : c = 34
      · have he : Plain.esc c = [92, 34] := by rw [c34]; decide
        have hd := HDR.out
        rw [he] at hd
        obtain ⟨l0, e0⟩ := tail_at hd (i := 0) (by simp)
        obtain ⟨l1, e1⟩ := tail_at hd (i := 1) (by simp)
        have hx0 := hr.index _ k rfl hlt
        have hx1 := hr.index ((k : Int) + 1) (k + 1) (by omega) l1
        have q0 := hr.cell k hlt
        have q1 := hr.cell (k + 1) l1
        rw [show nth N k = 92 from e0] at q0
        rw [show nth N (k + 1) = 34 from e1] at q1
        have HNX : Hid (N.drop (k + 2) = Plain.ESC (S.drop (j + 1))) := drop_next hd
        subst c34
        clear he hd e0 e1 hsw hs0
        go_wp2_with (at_builtin; refine wpList_append_src rfl _ _ rfl w.heap.size i0 hi hz0 hz1 hz2 u0 (D ++ S.take j) rfl (hsrc.alloc _) ⟨wr.heap.size, 0, none⟩ 34 rfl (cell_new _ _ rfl _ _) (by decide) (by omega) (by simp; omega) ?_; intro v1 w1 hsrc1 hbel1)
        have hb1 : Below w.heap.size w w1 := (hnx.alloc hws _).trans hbel1
        go_roundw
        case rel => exact ⟨k + 2, j + 1, by omega, by omega, by go_num, HNX.out, HS.out _ _ hsrc1, hb1⟩
        case measure => simp [intOf]; omega
      have d34 : Hid (c ≠ 34) := c34
      clear c34
      by_cases c92 : c = 92
      · have he : Plain.esc c = [92, 92] := by rw [c92]; decide
        have hd := HDR.out
        rw [he] at hd
        obtain ⟨l0, e0⟩ := tail_at hd (i := 0) (by simp)
        obtain ⟨l1, e1⟩ := tail_at hd (i := 1) (by simp)
        have hx0 := hr.index _ k rfl hlt
        have hx1 := hr.index ((k : Int) + 1) (k + 1) (by omega) l1
        have q0 := hr.cell k hlt
        have q1 := hr.cell (k + 1) l1
        rw [show nth N k = 92 from e0] at q0
        rw [show nth N (k + 1) = 92 from e1] at q1
        have HNX : Hid (N.drop (k + 2) = Plain.ESC (S.drop (j + 1))) := drop_next hd
        subst c92
        clear he hd e0 e1 hsw hs0 d34
        go_wp2_with (at_builtin; refine wpList_append_src rfl _ _ rfl w.heap.size i0 hi hz0 hz1 hz2 u0 (D ++ S.take j) rfl (hsrc.alloc _) ⟨wr.heap.size, 0, none⟩ 92 rfl (cell_new _ _ rfl _ _) (by decide) (by omega) (by simp; omega) ?_; intro v1 w1 hsrc1 hbel1)
        have hb1 : Below w.heap.size w w1 := (hnx.alloc hws _).trans hbel1
        go_roundw
        case rel => exact ⟨k + 2, j + 1, by omega, by omega, by go_num, HNX.out, HS.out _ _ hsrc1, hb1⟩
        case measure => simp [intOf]; omega
      have d92 : Hid (c ≠ 92) := c92
      clear c92
      by_cases c8 : c = 8
      · have he : Plain.esc c = [92, 98] := by rw [c8]; decide
        have hd := HDR.out
        rw [he] at hd
        obtain ⟨l0, e0⟩ := tail_at hd (i := 0) (by simp)
        obtain ⟨l1, e1⟩ := tail_at hd (i := 1) (by simp)
        have hx0 := hr.index _ k rfl hlt
        have hx1 := hr.index ((k : Int) + 1) (k + 1) (by omega) l1
        have q0 := hr.cell k hlt
        have q1 := hr.cell (k + 1) l1
        rw [show nth N k = 92 from e0] at q0
        rw [show nth N (k + 1) = 98 from e1] at q1
        have HNX : Hid (N.drop (k + 2) = Plain.ESC (S.drop (j + 1))) := drop_next hd
        subst c8
        clear he hd e0 e1 hsw hs0 d34 d92
        go_wp2_with (at_builtin; refine wpList_append_src rfl _ _ rfl w.heap.size i0 hi hz0 hz1 hz2 u0 (D ++ S.take j) rfl (hsrc.alloc _) ⟨wr.heap.size, 0, none⟩ 8 rfl (cell_new _ _ rfl _ _) (by decide) (by omega) (by simp; omega) ?_; intro v1 w1 hsrc1 hbel1)
        have hb1 : Below w.heap.size w w1 := (hnx.alloc hws _).trans hbel1
        go_roundw
        case rel => exact ⟨k + 2, j + 1, by omega, by omega, by go_num, HNX.out, HS.out _ _ hsrc1, hb1⟩
        case measure => simp [intOf]; omega
      have d8 : Hid (c ≠ 8) := c8
      clear c8
      by_cases c12 : c = 12
      · have he : Plain.esc c = [92, 102] := by rw [c12]; decide
        have hd := HDR.out
        rw [he] at hd
        obtain ⟨l0, e0⟩ := tail_at hd (i := 0) (by simp)
        obtain ⟨l1, e1⟩ := tail_at hd (i := 1) (by simp)
        have hx0 := hr.index _ k rfl hlt
        have hx1 := hr.index ((k : Int) + 1) (k + 1) (by omega) l1
        have q0 := hr.cell k hlt
        have q1 := hr.cell (k + 1) l1
        rw [show nth N k = 92 from e0] at q0
        rw [show nth N (k + 1) = 102 from e1] at q1
        have HNX : Hid (N.drop (k + 2) = Plain.ESC (S.drop (j + 1))) := drop_next hd
        subst c12
        clear he hd e0 e1 hsw hs0 d34 d92 d8
        go_wp2_with (at_builtin; refine wpList_append_src rfl _ _ rfl w.heap.size i0 hi hz0 hz1 hz2 u0 (D ++ S.take j) rfl (hsrc.alloc _) ⟨wr.heap.size, 0, none⟩ 12 rfl (cell_new _ _ rfl _ _) (by decide) (by omega) (by simp; omega) ?_; intro v1 w1 hsrc1 hbel1)
        have hb1 : Below w.heap.size w w1 := (hnx.alloc hws _).trans hbel1
        go_roundw
        case rel => exact ⟨k + 2, j + 1, by omega, by omega, by go_num, HNX.out, HS.out _ _ hsrc1, hb1⟩
        case measure => simp [intOf]; omega
      have d12 : Hid (c ≠ 12) := c12
      clear c12
      by_cases c10 : c = 10
      · have he : Plain.esc c = [92, 110] := by rw [c10]; decide
        have hd := HDR.out
        rw [he] at hd
        obtain ⟨l0, e0⟩ := tail_at hd (i := 0) (by simp)
        obtain ⟨l1, e1⟩ := tail_at hd (i := 1) (by simp)
        have hx0 := hr.index _ k rfl hlt
        have hx1 := hr.index ((k : Int) + 1) (k + 1) (by omega) l1
        have q0 := hr.cell k hlt
        have q1 := hr.cell (k + 1) l1
        rw [show nth N k = 92 from e0] at q0
        rw [show nth N (k + 1) = 110 from e1] at q1
        have HNX : Hid (N.drop (k + 2) = Plain.ESC (S.drop (j + 1))) := drop_next hd
        subst c10
        clear he hd e0 e1 hsw hs0 d34 d92 d8 d12
        go_wp2_with (at_builtin; refine wpList_append_src rfl _ _ rfl w.heap.size i0 hi hz0 hz1 hz2 u0 (D ++ S.take j) rfl (hsrc.alloc _) ⟨wr.heap.size, 0, none⟩ 10 rfl (cell_new _ _ rfl _ _) (by decide) (by omega) (by simp; omega) ?_; intro v1 w1 hsrc1 hbel1)
        have hb1 : Below w.heap.size w w1 := (hnx.alloc hws _).trans hbel1
        go_roundw
        case rel => exact ⟨k + 2, j + 1, by omega, by omega, by go_num, HNX.out, HS.out _ _ hsrc1, hb1⟩
        case measure => simp [intOf]; omega
      have d10 : Hid (c ≠ 10) := c10
      clear c10
      by_cases c13 : c = 13
      · have he : Plain.esc c = [92, 114] := by rw [c13]; decide
        have hd := HDR.out
        rw [he] at hd
        obtain ⟨l0, e0⟩ := tail_at hd (i := 0) (by simp)
        obtain ⟨l1, e1⟩ := tail_at hd (i := 1) (by simp)
        have hx0 := hr.index _ k rfl hlt
        have hx1 := hr.index ((k : Int) + 1) (k + 1) (by omega) l1
        have q0 := hr.cell k hlt
        have q1 := hr.cell (k + 1) l1
        rw [show nth N k = 92 from e0] at q0
        rw [show nth N (k + 1) = 114 from e1] at q1
        have HNX : Hid (N.drop (k + 2) = Plain.ESC (S.drop (j + 1))) := drop_next hd
        subst c13
        clear he hd e0 e1 hsw hs0 d34 d92 d8 d12 d10
        go_wp2_with (at_builtin; refine wpList_append_src rfl _ _ rfl w.heap.size i0 hi hz0 hz1 hz2 u0 (D ++ S.take j) rfl (hsrc.alloc _) ⟨wr.heap.size, 0, none⟩ 13 rfl (cell_new _ _ rfl _ _) (by decide) (by omega) (by simp; omega) ?_; intro v1 w1 hsrc1 hbel1)
        have hb1 : Below w.heap.size w w1 := (hnx.alloc hws _).trans hbel1
        go_roundw
        case rel => exact ⟨k + 2, j + 1, by omega, by omega, by go_num, HNX.out, HS.out _ _ hsrc1, hb1⟩
        case measure => simp [intOf]; omega
      have d13 : Hid (c ≠ 13) := c13
      clear c13
      by_cases c9 : c = 9
      · have he : Plain.esc c = [92, 116] := by rw [c9]; decide
        have hd := HDR.out
        rw [he] at hd
        obtain ⟨l0, e0⟩ := tail_at hd (i := 0) (by simp)
        obtain ⟨l1, e1⟩ := tail_at hd (i := 1) (by simp)
        have hx0 := hr.index _ k rfl hlt
        have hx1 := hr.index ((k : Int) + 1) (k + 1) (by omega) l1
        have q0 := hr.cell k hlt
        have q1 := hr.cell (k + 1) l1
        rw [show nth N k = 92 from e0] at q0
        rw [show nth N (k + 1) = 116 from e1] at q1
        have HNX : Hid (N.drop (k + 2) = Plain.ESC (S.drop (j + 1))) := drop_next hd
        subst c9
        clear he hd e0 e1 hsw hs0 d34 d92 d8 d12 d10 d13
        go_wp2_with (at_builtin; refine wpList_append_src rfl _ _ rfl w.heap.size i0 hi hz0 hz1 hz2 u0 (D ++ S.take j) rfl (hsrc.alloc _) ⟨wr.heap.size, 0, none⟩ 9 rfl (cell_new _ _ rfl _ _) (by decide) (by omega) (by simp; omega) ?_; intro v1 w1 hsrc1 hbel1)
        have hb1 : Below w.heap.size w w1 := (hnx.alloc hws _).trans hbel1
        go_roundw
        case rel => exact ⟨k + 2, j + 1, by omega, by omega, by go_num, HNX.out, HS.out _ _ hsrc1, hb1⟩
        case measure => simp [intOf]; omega
      have d9 : Hid (c ≠ 9) := c9
      clear c9
      by_cases c32 : c < 32
      · have he : Plain.esc c = [92, 117, 48, 48, Plain.hx (c / 16), Plain.hx (c % 16)] := by unfold Plain.esc; rw [if_neg d34.out, if_neg d92.out, if_neg d8.out, if_neg d12.out, if_neg d10.out, if_neg d13.out, if_neg d9.out, if_pos c32]
        have hd := HDR.out
        rw [he] at hd
        obtain ⟨l0, e0⟩ := tail_at hd (i := 0) (by simp)
        obtain ⟨l1, e1⟩ := tail_at hd (i := 1) (by simp)
        obtain ⟨l5, e5⟩ := tail_at hd (i := 5) (by simp)
        have hx0 := hr.index _ k rfl hlt
        have hx1 := hr.index ((k : Int) + 1) (k + 1) (by omega) l1
        have q0 := hr.cell k hlt
        have q1 := hr.cell (k + 1) l1
        rw [show nth N k = 92 from e0] at q0
        rw [show nth N (k + 1) = 117 from e1] at q1
        have HNX : Hid (N.drop (k + 6) = Plain.ESC (S.drop (j + 1))) := drop_next hd
        obtain ⟨u, hcut, hru⟩ := hr.cut ((k : Int) + 1 + 1) ((k : Int) + 1 + 5) (k + 2) (k + 6) (by omega) (by omega) (by omega) (by omega)
        rw [show (N.take (k + 6)).drop (k + 2) = [48, 48, Plain.hx (c / 16), Plain.hx (c % 16)] from four_of hd] at hru
        have hstr := hru.str (by simp) (fun z hz => wf_of (Plain.esc_u8 (c := c) hs0.1 hs0.2 z (by rw [he]; simp only [List.mem_cons] at hz ⊢; rcases hz with h | h | h | h | h <;> simp [h])))
        have HX : Hid (Hex4 [48, 48, Plain.hx (c / 16), Plain.hx (c % 16)] c) := hex4_of hs0.1 c32
        obtain ⟨s4, hs4⟩ : ∃ s4, s4 = strOfNums [48, 48, Plain.hx (c / 16), Plain.hx (c % 16)] := ⟨_, rfl⟩
        rw [← hs4] at hstr
        have HS4 : Hid (s4 = strOfNums [48, 48, Plain.hx (c / 16), Plain.hx (c % 16)]) := hs4
        clear he hd e0 e1 e5 hs4
        go_wp2_with (first | (go_at_call 15; refine (parse_any s4 _ c _ HS4.out HX.out).mono ?_; rintro e w2 ⟨rfl, hb2⟩; have hsrc2 := src_later hsrc hb2; have hnx2 := hnx.trans (below_wider hb2 hws); have hws2 := hnx2.size) | (at_builtin; refine wpList_append_src rfl _ _ rfl w.heap.size i0 hi hz0 hz1 hz2 u0 (D ++ S.take j) rfl (hsrc2.alloc _) ⟨w2.heap.size, 0, none⟩ c rfl (cell_new _ _ rfl _ _) hsw (by omega) (by simp; omega) ?_; intro v1 w1 hsrc1 hbel1))
        have hb1 : Below w.heap.size w w1 := (hnx2.alloc hws2 _).trans hbel1
        go_roundw
        case rel => exact ⟨k + 6, j + 1, by omega, by omega, by go_num, HNX.out, HS.out _ _ hsrc1, hb1⟩
        case measure => simp [intOf]; omega
      · have he : Plain.esc c = [c] := by unfold Plain.esc; rw [if_neg d34.out, if_neg d92.out, if_neg d8.out, if_neg d12.out, if_neg d10.out, if_neg d13.out, if_neg d9.out, if_neg c32]
        have hd := HDR.out
        rw [he] at hd
        obtain ⟨l0, e0⟩ := tail_at hd (i := 0) (by simp)
        have hx0 := hr.index _ k rfl hlt
        have q0 := hr.cell k hlt
        rw [show nth N k = c from e0] at q0
        have HNX : Hid (N.drop (k + 1) = Plain.ESC (S.drop (j + 1))) := drop_next hd
        have hn92 : (c != 92) = true := by simp [d92.out]
        clear he hd e0 d34 d92 d8 d12 d10 d13 d9
        go_wp2_with (at_builtin; refine wpList_append_src rfl _ _ rfl w.heap.size i0 hi hz0 hz1 hz2 u0 (D ++ S.take j) rfl (hsrc.alloc _) ⟨wr.heap.size, 0, none⟩ c rfl (cell_new _ _ rfl _ _) hsw (by omega) (by simp; omega) ?_; intro v1 w1 hsrc1 hbel1)
        have hb1 : Below w.heap.size w w1 := (hnx.alloc hws _).trans hbel1
        go_roundw
        case rel => exact ⟨k + 1, j + 1, by omega, by omega, by go_num, HNX.out, HS.out _ _ hsrc1, hb1⟩
        case measure => simp [intOf]; omega
    · have hjl : j = S.length := by
        rw [List.drop_eq_nil_of_le (by omega)] at hdr
        have h2 := Plain.ESC_nil hdr.symm
        have h3 := congrArg List.length h2
        simp at h3
        omega
      have hfin : Src wr w.heap.size u0 (D ++ S) := by
        rw [hjl, List.take_of_length_le (Nat.le_refl _)] at hsrc
        exact hsrc
      clear hdr
      go_wp2
      go_ret
      exact ⟨_, rfl, hfin, hnx⟩

set_option maxHeartbeats 400000 in
theorem zzunescape_any (dv nv : Value) (D S : List Int) (w : World) (hdst : Src w w.heap.size dv D) (hname : Reads w nv (Plain.ESC S)) (hS : ∀ z ∈ S, (Lit.int .u8 z).wf = true) (hDl : D.length ≤ 1048576) (hSl : S.length ≤ 1048576) :
    Calls Tryd.prog 8 #[dv, nv] w fun e w' => ∃ v, e = .returned v ∧ Src w' w.heap.size v (D ++ S) ∧ Below w.heap.size w w' := by
  go_enter Tryd.func8, Tryd.ntmps8
  go_wp2_with (go_at_call 13; refine (unescape_any dv nv D S _ hdst hname hS hDl hSl).mono ?_; rintro e w' ⟨v, rfl, h1, h2⟩)
  go_ret
  exact ⟨_, rfl, h1, h2⟩

end Go.Proofs.Qxb6606064aDoor
