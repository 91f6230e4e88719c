/-
  The seat b6605380a: unquoted (F18), ZZUnquoted (F13), isQuote (F20).
-/
import Derived.Test.Qxb6605380aLaws
namespace Go.Proofs.Qxb6605380a
open Go.RowKit Go.Maps

theorem isq_any (c : Int) (w : World) : Calls Try.prog 20 #[.int .u8 c] w fun e w' => e = .returned (.bool (Plain.isQ c)) ∧ w = w' := by
  by_cases h1 : c = 96
  · subst h1
    go_enter Try.func20, Try.ntmps20
    go_wp2
    go_ret
    exact ⟨rfl, rfl⟩
  · have h1' : (c == 96) = false := by simp [h1]
    have e : Plain.isQ c = (c == 34) := by unfold Plain.isQ; rw [h1']; simp
    rw [e]
    clear h1 e
    go_enter Try.func20, Try.ntmps20
    go_wp2
    go_ret
    exact ⟨rfl, rfl⟩

theorem below_grown {B : Nat} {w wr w1 : World} {base : Nat} {v : Value} {zs : List Int} (h : Below B w wr) (ho : ownsB wr base v zs) (hB : B ≤ base) (hs : B ≤ wr.heap.size) (o : Obj) (hg : (wr.alloc o).grownBy w1 v.ownBlock) : Below B w w1 :=
  (h.alloc hs o).grown hg (by simp; omega) (fun k hk => Nat.le_trans hB (ho.lt k hk).1)

theorem drop_at {l : List Int} {k : Nat} (h : k < l.length) : l.drop k = nth l k :: l.drop (k + 1) := by
  rw [List.drop_eq_getElem_cons h, nth_eq h]

theorem arr_start (w : World) (cs : Array Value) (hcs : cs.size = 64) : ownsB (w.alloc (.cells cs 37)) w.heap.size (.slice (some ⟨w.heap.size, 0, none⟩) 0 64) [] :=
  ⟨37, ⟨⟨rfl, Or.inr ⟨w.heap.size, 64, cs, rfl, Nat.le_refl _, heap_alloc_new w _, by simp, by unfold maxLen; omega, by rw [hcs], by simp⟩⟩, by simp⟩⟩

set_option maxHeartbeats 1000000 in
set_option maxRecDepth 100000 in
theorem unq_some (s : ByteArray) (w : World) (hs : s.size ≤ 1048576) (h0 : 0 < s.size) :
    Calls Try.prog 18 #[.string s] w fun e w' => e = .returned (.tuple #[.string (strOfNums (Plain.unq 0 false [] (bytes s)).1), .bool (Plain.unq 0 false [] (bytes s)).2]) ∧ Below w.heap.size w w' := by
  obtain ⟨i0, hi, hz0, hz1, hz2⟩ := info_parts Try.info5
  have hne : (s.toList == ([] : List UInt8)) = false := by
    rw [beq_eq_false_iff_ne]
    intro e
    have h2 := congrArg List.length e
    rw [ByteArray.toList_eq] at h2
    have h3 : s.data.toList.length = s.size := rfl
    rw [h3, List.length_nil] at h2
    omega
  obtain ⟨R, hR⟩ : ∃ R, R = Plain.unq 0 false [] (bytes s) := ⟨_, rfl⟩
  rw [← hR]
  have HR : Hid (Plain.unq 0 false [] ((bytes s).drop 0) = R) := by rw [List.drop_zero]; exact hR.symm
  clear hR
  have hbl := bytes_len s
  have HBL : Hid ((bytes s).length = s.size) := hbl
  clear hbl
  go_enter Try.func18, Try.ntmps18
  go_wp2
  clear hne
  go_loopw [5, 6, 7, 8] (fun v qv dv i wr => ∃ (k : Nat) (q : Int) (d : Bool) (out : List Int), k ≤ s.size ∧ i = .int .i64 k ∧ qv = .int .u8 q ∧ dv = .bool d ∧ ownsB wr w.heap.size v out ∧ out.length ≤ k ∧ Below w.heap.size w wr ∧ w.heap.size + 1 ≤ wr.heap.size ∧ Plain.unq q d out ((bytes s).drop k) = R) (fun _ _ _ i _ => s.size - (intOf i).toNat)
  case atStart => exact ⟨0, 0, false, [], Nat.zero_le _, rfl, rfl, rfl, arr_start w _ rfl, Nat.le_refl _, (Below.refl _ _).alloc (Nat.le_refl _) _, by simp, HR.out⟩
  case round =>
    clear HR
    obtain ⟨k, q, d, out, hk, rfl, rfl, rfl, hown, hol, hnx, hws, heq⟩ := hrel
    have HQ : Hid (Plain.unq q d out ((bytes s).drop k) = R) := heq
    clear heq
    by_cases hlt : k < s.size
    · have hix := index_eq (P := Try.prog) Try.underlying9 s k hlt
      have hkl : k < (bytes s).length := by rw [HBL.out]; exact hlt
      have hwf := nth_wf (bytes_wf s) hkl
      have HD : Hid ((bytes s).drop k = nth (bytes s) k :: (bytes s).drop (k + 1)) := drop_at hkl
      clear hkl
      by_cases hq : q = 0
      · subst hq
        cases hc : Plain.isQ (nth (bytes s) k) with
        | true =>
          have HE : Hid (Plain.unq (nth (bytes s) k) d out ((bytes s).drop (k + 1)) = R) := by
            show _ = R
            rw [← HQ.out, HD.out, Plain.unq_open d out _ hc]
          go_wp2_with (go_at_call 20; refine (isq_any _ _).mono ?_; rw [hc]; rintro e w' ⟨rfl, rfl⟩)
          go_roundw
          case rel => exact ⟨k + 1, _, d, out, by omega, by go_num, rfl, rfl, hown, by omega, hnx, hws, HE.out⟩
          case measure => simp [intOf]; omega
        | false =>
          have HE : Hid (Plain.unq 0 (d || nth (bytes s) k == 46) (out ++ [nth (bytes s) k]) ((bytes s).drop (k + 1)) = R) := by
            show _ = R
            rw [← HQ.out, HD.out, Plain.unq_bare d out _ hc]
          cases d with
          | true =>
            go_wp2_with (first | (go_at_call 20; refine (isq_any _ _).mono ?_; rw [hc]; rintro e w' ⟨rfl, rfl⟩) | (at_builtin; refine wpList_append_b _ rfl _ _ 29 rfl w.heap.size 5 i0 Try.underlying29 hi hz0 hz1 hz2 u5 out rfl (hown.alloc _) ⟨wr.heap.size, 0, none⟩ (nth (bytes s) k) rfl (cell_new _ _ rfl _ _) hwf (by omega) (by simp; omega) ?_; intro v1 w1 hown1 hgrow1))
            have hb1 := below_grown hnx hown (Nat.le_refl _) (by omega) _ hgrow1
            have hz1 := hgrow1.size
            simp at hz1
            go_roundw
            case rel => exact ⟨k + 1, 0, true, out ++ [nth (bytes s) k], by omega, by go_num, rfl, rfl, hown1, by simp; omega, hb1, by omega, HE.out⟩
            case measure => simp [intOf]; omega
          | false =>
            go_wp2_with (first | (go_at_call 20; refine (isq_any _ _).mono ?_; rw [hc]; rintro e w' ⟨rfl, rfl⟩) | (at_builtin; refine wpList_append_b _ rfl _ _ 29 rfl w.heap.size 5 i0 Try.underlying29 hi hz0 hz1 hz2 u5 out rfl (hown.alloc _) ⟨wr.heap.size, 0, none⟩ (nth (bytes s) k) rfl (cell_new _ _ rfl _ _) hwf (by omega) (by simp; omega) ?_; intro v1 w1 hown1 hgrow1))
            have hb1 := below_grown hnx hown (Nat.le_refl _) (by omega) _ hgrow1
            have hz1 := hgrow1.size
            simp at hz1
            go_roundw
            case rel => exact ⟨k + 1, 0, _, out ++ [nth (bytes s) k], by omega, by go_num, rfl, rfl, hown1, by simp; omega, hb1, by omega, HE.out⟩
            case measure => simp [intOf]; omega
      · have hq0 : (q == 0) = false := by simp [hq]
        by_cases hcq : nth (bytes s) k = q
        · have hcq' : (nth (bytes s) k == q) = true := by simp [hcq]
          have HCQ : Hid (nth (bytes s) k = q) := hcq
          clear hcq
          by_cases hl2 : k + 1 < s.size
          · have hix2 := index_eq (P := Try.prog) Try.underlying9 s (k + 1) hl2
            have e1 : ((k + 1 : Nat) : Int) = (k : Int) + 1 := by omega
            rw [e1] at hix2
            clear e1
            have HD2 : Hid ((bytes s).drop (k + 1) = nth (bytes s) (k + 1) :: (bytes s).drop (k + 2)) := drop_at (by rw [HBL.out]; exact hl2)
            have hlt1 : (k : Int) + 1 < (s.size : Int) := by omega
            by_cases hc2 : nth (bytes s) (k + 1) = q
            · have hc2' : (nth (bytes s) (k + 1) == q) = true := by simp [hc2]
              have HE : Hid (Plain.unq q d (out ++ [nth (bytes s) k]) ((bytes s).drop (k + 2)) = R) := by
                show _ = R
                rw [← HQ.out, HD.out, HD2.out, HCQ.out, hc2, Plain.unq_twice d out _ hq]
              clear hc2 hq
              go_wp2_with (at_builtin; refine wpList_append_b _ rfl _ _ 29 rfl w.heap.size 5 i0 Try.underlying29 hi hz0 hz1 hz2 u5 out rfl (hown.alloc _) ⟨wr.heap.size, 0, none⟩ (nth (bytes s) k) rfl (cell_new _ _ rfl _ _) hwf (by omega) (by simp; omega) ?_; intro v1 w1 hown1 hgrow1)
              have hb1 := below_grown hnx hown (Nat.le_refl _) (by omega) _ hgrow1
              have hz1 := hgrow1.size
              simp at hz1
              go_roundw
              case rel => exact ⟨k + 2, q, d, out ++ [nth (bytes s) k], by omega, by go_num, rfl, rfl, hown1, by simp; omega, hb1, by omega, HE.out⟩
              case measure => simp [intOf]; omega
            · have hc2' : (nth (bytes s) (k + 1) == q) = false := by simp [hc2]
              have HE : Hid (Plain.unq 0 d out ((bytes s).drop (k + 1)) = R) := by
                show _ = R
                rw [← HQ.out, HD.out, HCQ.out, Plain.unq_shut d out _ hq (by rw [HD2.out]; simpa using hc2)]
              clear hc2 hq
              go_wp2
              go_roundw
              case rel => exact ⟨k + 1, 0, d, out, by omega, by go_num, rfl, rfl, hown, by omega, hnx, hws, HE.out⟩
              case measure => simp [intOf]; omega
          · have HE : Hid (Plain.unq 0 d out ((bytes s).drop (k + 1)) = R) := by
              show _ = R
              have hd0 : (bytes s).drop (k + 1) = [] := List.drop_eq_nil_of_le (by rw [HBL.out]; omega)
              rw [← HQ.out, HD.out, HCQ.out, Plain.unq_shut d out _ hq (by rw [hd0]; simp)]
            have hlt1 : ¬ (k : Int) + 1 < (s.size : Int) := by omega
            clear hq
            go_wp2
            go_roundw
            case rel => exact ⟨k + 1, 0, d, out, by omega, by go_num, rfl, rfl, hown, by omega, hnx, hws, HE.out⟩
            case measure => simp [intOf]; omega
        · have hcq' : (nth (bytes s) k == q) = false := by simp [hcq]
          have HE : Hid (Plain.unq q d (out ++ [nth (bytes s) k]) ((bytes s).drop (k + 1)) = R) := by
            show _ = R
            rw [← HQ.out, HD.out, Plain.unq_in d out _ hq hcq]
          clear hcq hq
          go_wp2_with (at_builtin; refine wpList_append_b _ rfl _ _ 29 rfl w.heap.size 5 i0 Try.underlying29 hi hz0 hz1 hz2 u5 out rfl (hown.alloc _) ⟨wr.heap.size, 0, none⟩ (nth (bytes s) k) rfl (cell_new _ _ rfl _ _) hwf (by omega) (by simp; omega) ?_; intro v1 w1 hown1 hgrow1)
          have hb1 := below_grown hnx hown (Nat.le_refl _) (by omega) _ hgrow1
          have hz1 := hgrow1.size
          simp at hz1
          go_roundw
          case rel => exact ⟨k + 1, q, d, out ++ [nth (bytes s) k], by omega, by go_num, rfl, rfl, hown1, by simp; omega, hb1, by omega, HE.out⟩
          case measure => simp [intOf]; omega
    · have hd0 : (bytes s).drop k = [] := List.drop_eq_nil_of_le (by rw [HBL.out]; omega)
      have hRR : R = (out, d) := by rw [← HQ.out, hd0, Plain.unq_nil]
      subst hRR
      have hcv := conv_eq (P := Try.prog) wr Try.underlying29 Try.underlying5 Try.underlying9 hown
      clear hd0
      go_wp2
      go_ret2
      exact ⟨rfl, hnx⟩

set_option maxHeartbeats 400000 in
theorem unq_empty (w : World) : Calls Try.prog 18 #[.string ⟨#[]⟩] w fun e w' => e = .returned (.tuple #[.string ⟨#[63]⟩, .bool false]) ∧ w = w' := by
  go_enter Try.func18, Try.ntmps18
  go_wp2
  go_ret2
  exact ⟨rfl, rfl⟩

set_option maxHeartbeats 400000 in
theorem zzunq_some (s : ByteArray) (w : World) (hs : s.size ≤ 1048576) (h0 : 0 < s.size) :
    Calls Try.prog 13 #[.string s] w fun e w' => e = .returned (.tuple #[.string (strOfNums (Plain.unq 0 false [] (bytes s)).1), .bool (Plain.unq 0 false [] (bytes s)).2]) ∧ Below w.heap.size w w' := by
  go_enter Try.func13, Try.ntmps13
  go_wp2_with (go_at_call 18; refine (unq_some s _ hs h0).mono ?_; rintro e w' ⟨rfl, hb⟩)
  go_ret2
  exact ⟨rfl, hb⟩

set_option maxHeartbeats 400000 in
theorem zzunq_empty (w : World) : Calls Try.prog 13 #[.string ⟨#[]⟩] w fun e w' => e = .returned (.tuple #[.string ⟨#[63]⟩, .bool false]) ∧ w = w' := by
  go_enter Try.func13, Try.ntmps13
  go_wp2_with (go_at_call 18; refine (unq_empty _).mono ?_; rintro e w' ⟨rfl, rfl⟩)
  go_ret2
  exact ⟨rfl, rfl⟩

end Go.Proofs.Qxb6605380a
