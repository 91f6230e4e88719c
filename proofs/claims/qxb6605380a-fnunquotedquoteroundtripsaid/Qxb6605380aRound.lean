/-
  The seat b6605380a: FnUnquotedQuoteRoundTrip (F6): the walk.
-/
import Derived.Test.Qxb6605380aQuote
namespace Go.Proofs.Qxb6605380a
open Go.RowKit Go.Maps

theorem bytes_append (a b : ByteArray) : bytes (a ++ b) = bytes a ++ bytes b := by
  unfold bytes
  rw [ByteArray.data_append]
  simp

/-- Reading back what was written, one part. -/
theorem back_one (q : Int) (a : ByteArray) (zs : List Int) (hq : Plain.isQ q = true) (hz : zs = Plain.quoted q (bytes a)) (hwf : ∀ z ∈ zs, (Lit.int .u8 z).wf = true) :
    Plain.unq 0 false [] (bytes (strOfNums zs)) = (bytes a, false) := by
  rw [bytes_strOf hwf, hz, Plain.unq_one _ hq]

theorem back_two (qa qb : Int) (a b : ByteArray) (zs : List Int) (ha : Plain.isQ qa = true) (hb : Plain.isQ qb = true) (hz : zs = Plain.quoted qa (bytes a) ++ [46] ++ Plain.quoted qb (bytes b)) (hwf : ∀ z ∈ zs, (Lit.int .u8 z).wf = true) :
    Plain.unq 0 false [] (bytes (strOfNums zs)) = (bytes a ++ [46] ++ bytes b, true) := by
  rw [bytes_strOf hwf, hz, Plain.unq_two _ _ ha hb]

theorem two_parts {Z Z4 A B : List Int} (h : Z = [] ++ A) (h4 : Z4 = Z ++ [46] ++ B) : Z4 = A ++ [46] ++ B := by
  rw [h4, h, List.nil_append]

theorem quoted_len (q : Int) (s : ByteArray) : 2 ≤ (Plain.quoted q (bytes s)).length ∧ (Plain.quoted q (bytes s)).length ≤ 2 * s.size + 2 := by
  have := Plain.dbl_len q (bytes s)
  rw [bytes_len] at this
  unfold Plain.quoted
  simp only [List.length_append, List.length_singleton]
  omega

theorem made_own {w w1 : World} {n : Nat} (h : w1.ownsRow w.heap.size 5 1 (.slice (some ⟨w.heap.size, 0, none⟩) 0 n) 0 []) : ownsB w1 w.heap.size (.slice (some ⟨w.heap.size, 0, none⟩) 0 n) [] := ⟨5, h, by simp⟩

theorem quote_z (v : Value) (zs : List Int) (s : ByteArray) (q : Int) (base : Nat) (w : World) (hown0 : ownsB w base v zs) (hq : (Lit.int .u8 q).wf = true) (hs : s.size ≤ 65536) (hz : zs.length ≤ 1048576) (hbase : base ≤ w.heap.size) :
    Calls Try.prog 16 #[v, .string s, .int .u8 q] w fun e w' => ∃ v' Z, e = .returned v' ∧ ownsB w' base v' Z ∧ Hid (Z = zs ++ Plain.quoted q (bytes s)) ∧ 2 ≤ Z.length ∧ Z.length ≤ zs.length + 2 * s.size + 2 ∧ Below base w w' := by
  refine (quote_any v zs s q base w hown0 hq hs hz hbase).mono ?_
  rintro e w' ⟨v', rfl, h1, h2⟩
  have hq := quoted_len q s
  exact ⟨v', _, rfl, h1, rfl, by rw [List.length_append]; omega, by rw [List.length_append]; omega, h2⟩

/-- What the reading back answers. -/
theorem zzunq_is (Z out : List Int) (d : Bool) (w : World) (hl : Z.length ≤ 1048576) (h0 : 0 < Z.length) (hr : Plain.unq 0 false [] (bytes (strOfNums Z)) = (out, d)) :
    Calls Try.prog 13 #[.string (strOfNums Z)] w fun e w' => e = .returned (.tuple #[.string (strOfNums out), .bool d]) ∧ Below w.heap.size w w' := by
  have h := zzunq_some (strOfNums Z) w (by rw [strOfNums_size]; exact hl) (by rw [strOfNums_size]; exact h0)
  rw [hr] at h
  exact h

set_option maxHeartbeats 1000000 in
theorem round_one (a b : ByteArray) (aA aB : Bool) (w : World) (ha : a.size ≤ 65536) (hb : b.size ≤ 65536) :
    Calls Try.prog 6 #[.string a, .string b, .bool false, .bool aA, .bool aB] w fun e w' => e = .returned (.bool true) ∧ Below w.heap.size w w' := by
  obtain ⟨i0, hi, hz0, hz1, hz2⟩ := info_parts Try.info5
  have hfin : binOp .eql 9 (.string (strOfNums (bytes a))) (.string a) = pure (.bool true) := eql_eq (by rw [strOf_bytes])
  cases aA <;> cases aB
  all_goals
    go_enter Try.func6, Try.ntmps6
    go_wp2_with (first | (at_make; refine wpList_make_own _ rfl _ _ 29 rfl w.heap.size 5 i0 (.int .u8 0) 1 Try.underlying29 hi hz0 hz1 _ _ _ (2 * a.size + 2 * b.size + 5) rfl rfl (by omega) (by rw [hz2]; omega) (by unfold maxLen; omega) (Nat.le_refl _) ?_; intro w1 hown1 hgrow1; have hb1 : Below w.heap.size w w1 := (Below.refl _ _).grown hgrow1 (Nat.le_refl _) (fun j hj => (by cases hj))) | (go_at_call 16; refine (quote_z _ [] a _ w.heap.size _ (made_own hown1) (by decide) ha (by simp) hb1.size).mono ?_; rintro e w2 ⟨v2, Z, rfl, hown2, HZ, hl1, hl2, hb2⟩; simp only [List.length_nil] at hl2; have hcv := conv_eq (P := Try.prog) w2 Try.underlying29 Try.underlying5 Try.underlying9 hown2) | (go_at_call 13; refine (zzunq_is Z (bytes a) false _ (by omega) (by omega) (back_one _ a Z (by decide) (HZ.out.trans (List.nil_append _)) hown2.wf)).mono ?_; rintro e w3 ⟨rfl, hb3⟩) | go_in)
    go_ret
    exact ⟨rfl, (hb1.trans hb2).trans (hb3.mono (Nat.le_trans hb1.size hb2.size))⟩

set_option maxHeartbeats 2000000 in
theorem round_two (a b : ByteArray) (aA aB : Bool) (w : World) (ha : a.size ≤ 65536) (hb : b.size ≤ 65536) :
    Calls Try.prog 6 #[.string a, .string b, .bool true, .bool aA, .bool aB] w fun e w' => e = .returned (.bool true) ∧ Below w.heap.size w w' := by
  obtain ⟨i0, hi, hz0, hz1, hz2⟩ := info_parts Try.info5
  have e46 : bytes ⟨#[46]⟩ = [46] := rfl
  have hfin : binOp .eql 9 (.string (strOfNums (bytes a ++ [46] ++ bytes b))) (.string (a ++ ⟨#[46]⟩ ++ b)) = pure (.bool true) := eql_eq (by rw [← e46, ← bytes_append, ← bytes_append, strOf_bytes])
  have hs1 : ∀ w : World, (Op.stringOp .add a ⟨#[46]⟩).run Try.prog w = .ok (.string (a ++ ⟨#[46]⟩)) w := fun w => run_string_add_sum (P := Try.prog) (w := w) a ⟨#[46]⟩ (by have : (ByteArray.mk #[46]).size = 1 := rfl; omega)
  have hs2 : ∀ w : World, (Op.stringOp .add (a ++ ⟨#[46]⟩) b).run Try.prog w = .ok (.string (a ++ ⟨#[46]⟩ ++ b)) w := fun w => run_string_add_sum (P := Try.prog) (w := w) (a ++ ⟨#[46]⟩) b (by have : (ByteArray.mk #[46]).size = 1 := rfl; rw [ByteArray.size_append]; omega)
  clear e46
  obtain ⟨O, hO⟩ : ∃ O, O = bytes a ++ [46] ++ bytes b := ⟨_, rfl⟩
  rw [← hO] at hfin
  have HO : Hid (O = bytes a ++ [46] ++ bytes b) := hO
  clear hO
  cases aA <;> cases aB
  all_goals
    have tok1 : True := trivial
    go_enter Try.func6, Try.ntmps6
    go_wp2_with (first | (at_make; refine wpList_make_own _ rfl _ _ 29 rfl w.heap.size 5 i0 (.int .u8 0) 1 Try.underlying29 hi hz0 hz1 _ _ _ (2 * a.size + 2 * b.size + 5) rfl rfl (by omega) (by rw [hz2]; omega) (by unfold maxLen; omega) (Nat.le_refl _) ?_; intro w1 hown1 hgrow1; have hb1 : Below w.heap.size w w1 := (Below.refl _ _).grown hgrow1 (Nat.le_refl _) (fun j hj => (by cases hj))) | (go_at_call 16; have _t := tok1; refine (quote_z _ [] a _ w.heap.size _ (made_own hown1) (by decide) ha (by simp) hb1.size).mono ?_; rintro e w2 ⟨v2, Z, rfl, hown2, HZ, hl1, hl2, hb2⟩; simp only [List.length_nil] at hl2; have hsz2 : w.heap.size ≤ w2.heap.size := Nat.le_trans hb1.size hb2.size; clear tok1) | (at_builtin; refine wpList_append_b _ rfl _ _ 29 rfl w.heap.size 5 i0 Try.underlying29 hi hz0 hz1 hz2 v2 Z rfl (hown2.alloc _) ⟨w2.heap.size, 0, none⟩ 46 rfl (cell_new _ _ rfl _ _) (by decide) (by omega) (by simp; omega) ?_; intro v3 w3 hown3 hgrow3; have hb3 := below_grown (hb1.trans hb2) hown2 (Nat.le_refl _) hsz2 _ hgrow3) | (go_at_call 16; refine (quote_z _ (Z ++ [46]) b _ w.heap.size _ hown3 (by decide) hb (by rw [List.length_append]; simp only [List.length_singleton]; omega) hb3.size).mono ?_; rintro e w4 ⟨v4, Z4, rfl, hown4, HZ4, hl3, hl4, hb4⟩; rw [List.length_append, List.length_singleton] at hl4; have hcv := conv_eq (P := Try.prog) w4 Try.underlying29 Try.underlying5 Try.underlying9 hown4) | (go_at_call 13; refine (zzunq_is Z4 O true _ (by omega) (by omega) ((back_two _ _ a b Z4 (by decide) (by decide) (two_parts HZ.out HZ4.out) hown4.wf).trans (by rw [HO.out]))).mono ?_; rintro e w5 ⟨rfl, hb5⟩) | go_in)
    go_ret
    exact ⟨rfl, (hb3.trans hb4).trans (hb5.mono (Nat.le_trans hb3.size hb4.size))⟩

set_option maxHeartbeats 1000000 in
theorem round_walk (a b : ByteArray) (two aA aB : Bool) (m0 : a.size ≤ maxLen) (m1 : b.size ≤ maxLen) (w : World) :
    Calls Try.prog 6 #[.string a, .string b, .bool two, .bool aA, .bool aB] w fun e w' => e = .returned (.bool true) ∧ Below w.heap.size w w' := by
  unfold maxLen at m0 m1
  by_cases hs0 : a.size ≤ 65536
  · by_cases hs1 : b.size ≤ 65536
    · cases two
      · exact round_one a b aA aB w hs0 hs1
      · exact round_two a b aA aB w hs0 hs1
    · by_cases t1 : b.size ≤ 1048576
      · by_cases t2 : a.size + b.size ≤ 1048576
        · go_enter Try.func6, Try.ntmps6
          go_wp2
          go_ret
          exact ⟨rfl, Below.refl _ _⟩
        · go_enter Try.func6, Try.ntmps6
          go_wp2
          go_ret
          exact ⟨rfl, Below.refl _ _⟩
      · go_enter Try.func6, Try.ntmps6
        go_wp2
        go_ret
        exact ⟨rfl, Below.refl _ _⟩
  · by_cases t0 : a.size ≤ 1048576
    · by_cases t1 : b.size ≤ 1048576
      · by_cases t2 : a.size + b.size ≤ 1048576
        · go_enter Try.func6, Try.ntmps6
          go_wp2
          go_ret
          exact ⟨rfl, Below.refl _ _⟩
        · go_enter Try.func6, Try.ntmps6
          go_wp2
          go_ret
          exact ⟨rfl, Below.refl _ _⟩
      · go_enter Try.func6, Try.ntmps6
        go_wp2
        go_ret
        exact ⟨rfl, Below.refl _ _⟩
    · go_enter Try.func6, Try.ntmps6
      go_wp2
      go_ret
      exact ⟨rfl, Below.refl _ _⟩

end Go.Proofs.Qxb6605380a
