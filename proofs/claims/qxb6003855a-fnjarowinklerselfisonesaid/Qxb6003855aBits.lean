/-
  The seat b6003855a: the bits of one word as a list of bools; the closure of matchShort; outOfOrder with it.
-/
import Derived.Test.Qxb6003855aOut
import Derived.Laws.BitsAllLaws
import Derived.BigQuiet
import Derived.Deep.QuietTactic
namespace Go.Proofs.Qxb6003855a
open Go.RowKit Go.Maps

def maskOf : List Bool → Nat
  | [] => 0
  | b :: l => b.toNat + 2 * maskOf l

theorem maskOf_testBit : ∀ (l : List Bool) (j : Nat), (maskOf l).testBit j = l.getD j false
  | [], j => by simp [maskOf]
  | b :: l, 0 => by
    simp only [maskOf, Nat.testBit_zero]
    cases b <;> simp <;> omega
  | b :: l, j + 1 => by
    have e : (maskOf (b :: l)) / 2 = maskOf l := by
      cases b <;> simp [maskOf] <;> omega
    rw [Nat.testBit_succ, e, maskOf_testBit l j]
    simp

theorem maskOf_lt : ∀ (l : List Bool), maskOf l < 2 ^ l.length
  | [] => by simp [maskOf]
  | b :: l => by
    have := maskOf_lt l
    simp only [maskOf, List.length_cons, Nat.pow_succ]
    cases b <;> simp <;> omega

theorem maskOf_set (l : List Bool) (j : Nat) (hj : j < l.length) : maskOf (l.set j true) = maskOf l ||| 2 ^ j := by
  apply Nat.eq_of_testBit_eq
  intro i
  rw [maskOf_testBit, Nat.testBit_or, maskOf_testBit, Nat.testBit_two_pow, Plain.getD_set_true]
  by_cases h : i = j
  · subst h; simp [hj]
  · have h' : ¬ j = i := fun e => h e.symm
    simp [h, h']

theorem maskOf_zero (n : Nat) : maskOf (List.replicate n false) = 0 := by
  induction n with
  | zero => rfl
  | succ n ih => rw [List.replicate_succ]; simp [maskOf, ih]

theorem and_bit (m j : Nat) : (m &&& 2 ^ j) = if m.testBit j then 2 ^ j else 0 := by
  apply Nat.eq_of_testBit_eq
  intro i
  rw [Nat.testBit_and, Nat.testBit_two_pow]
  by_cases h : j = i
  · subst h
    cases hm : m.testBit j <;> simp
  · cases hm : m.testBit j <;> simp [h]

/-- The word, a bit, what '&' of them gives: behind names. -/
def mkv (mt : List Bool) : Int := (maskOf mt : Nat)
def bitv (j : Nat) : Int := ((2 ^ j : Nat) : Int)
def andv (mt : List Bool) (j : Nat) : Int := ((maskOf mt &&& 2 ^ j : Nat) : Int)

theorem two_pow_lt {j : Nat} (h : j < 64) : 2 ^ j < 18446744073709551616 := by
  have : 2 ^ j < 2 ^ 64 := Nat.pow_lt_pow_right (by decide) h
  simpa using this
theorem mask_lt {mt : List Bool} (h : mt.length ≤ 64) : maskOf mt < 18446744073709551616 := by
  have h1 := maskOf_lt mt
  have h2 : 2 ^ mt.length ≤ 2 ^ 64 := Nat.pow_le_pow_right (by decide) h
  have h3 : (2 : Nat) ^ 64 = 18446744073709551616 := by decide
  omega

theorem shl_eq {t : TypeId} {j : Nat} (h : j < 64) : binOp .shl t (.int .u64 1) (.int .i64 (j : Int)) = pure (.int .u64 (bitv j)) := by
  rw [binOp_shl, shift_shl_any _ _ _ _ (by omega)]
  congr 2
  have e : min ((j : Int).toNat) IntKind.u64.bits = j := by
    simp [IntKind.bits]; omega
  rw [e, IntKind.wrap_u64]
  have h2 := two_pow_lt h
  have h3 : (1 : Int) * 2 ^ j = ((2 ^ j : Nat) : Int) := by simp
  rw [h3]
  unfold bitv
  generalize 2 ^ j = x at h2
  omega

theorem and_eq {t : TypeId} {mt : List Bool} {j : Nat} (hm : mt.length ≤ 64) (h : j < 64) : binOp .and t (.int .u64 (mkv mt)) (.int .u64 (bitv j)) = pure (.int .u64 (andv mt j)) := by
  rw [binOp_and, intBits_and]
  unfold mkv bitv andv
  rw [u64_and_nat _ _ (mask_lt hm) (two_pow_lt h)]

theorem or_eq {t : TypeId} {mt : List Bool} {j : Nat} (hm : mt.length ≤ 64) (h : j < mt.length) : binOp .or t (.int .u64 (mkv mt)) (.int .u64 (bitv j)) = pure (.int .u64 (mkv (mt.set j true))) := by
  rw [binOp_or, intBits_or]
  unfold mkv bitv
  rw [u64_or_nat _ _ (mask_lt hm) (two_pow_lt (by omega)), maskOf_set mt j h]

theorem andv_zero (mt : List Bool) (j : Nat) : (andv mt j == 0) = !bth mt j := by
  unfold andv bth
  rw [and_bit, maskOf_testBit]
  have : 0 < 2 ^ j := Nat.two_pow_pos j
  cases mt.getD j false
  · simp
  · show (((2 ^ j : Nat) : Int) == 0) = false
    rw [beq_eq_false_iff_ne]
    omega
theorem andv_not_zero (mt : List Bool) (j : Nat) : (andv mt j != 0) = bth mt j := by
  rw [bne, andv_zero]; simp

set_option maxHeartbeats 400000 in
theorem clos20 (mb : Nat) (mt : List Bool) (w : World) (hm : mt.length ≤ 64)
    (hcm : w.cell? ⟨mb, 0, none⟩ = some (.int .u64 (mkv mt))) (j : Nat) (hj : j < mt.length) :
    Calls Try.prog 20 #[.int .i64 j, .pointer (some ⟨mb, 0, none⟩)] w fun e w' => e = .returned (.bool (bth mt j)) ∧ ∃ n, w' = w.drewN n := by
  have h1 : binOp .shl 36 (.int .u64 1) (.int .i64 (j : Int)) = pure (.int .u64 (bitv j)) := shl_eq (by omega)
  have h2 : binOp .and 36 (.int .u64 (mkv mt)) (.int .u64 (bitv j)) = pure (.int .u64 (andv mt j)) := and_eq hm (by omega)
  have h3 := andv_not_zero mt j
  go_enter Try.func20, Try.ntmps20
  go_wp2
  go_quiet (fail)
  go_wp2
  go_ret
  exact ⟨rfl, _, rfl⟩

set_option maxHeartbeats 800000 in
theorem oo_short (vi vb : Value) (mb : Nat) (inA B : List Int) (mt : List Bool) (w : World) {b1 b2 : Nat} {e1 e2 : TypeId}
    (hi : w.ownsInts b1 e1 .i32 vi inA) (hb : w.ownsInts b2 e2 .i32 vb B) (hm : mt.length ≤ 64)
    (hcm : w.cell? ⟨mb, 0, none⟩ = some (.int .u64 (mkv mt))) (hl : mt.length = B.length) (hc : inA.length = Plain.cnt mt) :
    Calls Try.prog 18 #[vi, vb, .func (.func 20) #[] #[.pointer (some ⟨mb, 0, none⟩)]] w fun e w' => e = .returned (.int .i64 ((ooT inA B mt B.length / 2 : Nat) : Int)) ∧ ∃ n, w' = w.drewN n := by
  have hlb := len_eq (P := Try.prog) hb.1 22 Try.sl22
  have hB : B.length ≤ 64 := by omega
  have HC := hc
  have HL : Hid (mt.length = B.length) := hl
  go_enter Try.func18, Try.ntmps18
  go_wp2
  go_loopw [7, 8, 13] (fun t k j wr => ∃ n : Nat, n ≤ B.length ∧ j = .int .i64 n ∧ t = .int .i64 (ooT inA B mt n) ∧ k = .int .i64 (ooK inA B mt n) ∧ ∃ q, wr = w.drewN q) (fun _ _ j _ => B.length - (intOf j).toNat)
  case atStart => exact ⟨0, Nat.zero_le _, rfl, rfl, rfl, 0, rfl⟩
  case round =>
    obtain ⟨n, hn, rfl, rfl, rfl, q, rfl⟩ := hrel
    have hle := Plain.oo_le inA B mt n
    have hle1 : ooT inA B mt n ≤ n := hle.1
    have hle2 : ooK inA B mt n ≤ n := hle.2
    clear hle
    by_cases hlt : n < B.length
    · have hixb := index_eq hb.1 22 Try.sl22 Try.ce22 n hlt
      have hclb := cell_int hb n hlt
      cases hmt : bth mt n with
      | false =>
        have HR : Hid (ooT inA B mt (n + 1) = ooT inA B mt n ∧ ooK inA B mt (n + 1) = ooK inA B mt n) := oo_no inA B mt n hmt
        go_wp2_with (go_at_call 20; refine (clos20 mb mt (w.drewN q) hm hcm n (by omega)).mono ?_; rintro e w' ⟨rfl, q2, rfl⟩)
        go_roundw
        case rel => exact ⟨n + 1, by omega, by go_num, by rw [HR.out.1], by rw [HR.out.2], q + q2, by simp⟩
        case measure => simp [intOf]; omega
      | true =>
        have hk : ooK inA B mt n < inA.length := Plain.oo_lt inA B mt hc n (by omega) hmt
        have hixi := index_eq hi.1 22 Try.sl22 Try.ce22 (ooK inA B mt n) hk
        have hcli := cell_int hi (ooK inA B mt n) hk
        by_cases heq : nth inA (ooK inA B mt n) = nth B n
        · have HR : Hid (ooT inA B mt (n + 1) = ooT inA B mt n ∧ ooK inA B mt (n + 1) = ooK inA B mt n + 1) := oo_same inA B mt n hmt heq
          have hq : (nth inA (ooK inA B mt n) != nth B n) = false := by simp [heq]
          clear heq
          go_wp2_with (go_at_call 20; refine (clos20 mb mt (w.drewN q) hm hcm n (by omega)).mono ?_; rintro e w' ⟨rfl, q2, rfl⟩)
          go_roundw
          case rel => exact ⟨n + 1, by omega, by go_num, by rw [HR.out.1], by rw [HR.out.2]; go_num, q + q2, by simp⟩
          case measure => simp [intOf]; omega
        · have HR : Hid (ooT inA B mt (n + 1) = ooT inA B mt n + 1 ∧ ooK inA B mt (n + 1) = ooK inA B mt n + 1) := oo_other inA B mt n hmt heq
          have hq : (nth inA (ooK inA B mt n) != nth B n) = true := by simp [heq]
          clear heq
          go_wp2_with (go_at_call 20; refine (clos20 mb mt (w.drewN q) hm hcm n (by omega)).mono ?_; rintro e w' ⟨rfl, q2, rfl⟩)
          go_roundw
          case rel => exact ⟨n + 1, by omega, by go_num, by rw [HR.out.1]; go_num, by rw [HR.out.2]; go_num, q + q2, by simp⟩
          case measure => simp [intOf]; omega
    · have hn' : n = B.length := by omega
      subst hn'
      go_wp2
      go_ret
      exact ⟨ret_int (by omega), _, rfl⟩

end Go.Proofs.Qxb6003855a
