/-
  The seat b6003855a: outOfOrder and the closures that it calls.
-/
import Derived.Test.Qxb6003855aLaws
import Derived.Test.Qxb6003855aPlain
namespace Go.Proofs.Qxb6003855a
open Go.RowKit Go.Maps

set_option maxHeartbeats 400000 in
theorem clos19 (vm : Value) (mb : Nat) (mt : List Bool) (w : World) {bm : Nat} {em : TypeId} (hm : w.ownsRow bm em 1 vm mt.length (mt.map Value.bool))
    (hcm : w.cell? ⟨mb, 0, none⟩ = some vm) (j : Nat) (hj : j < mt.length) :
    Calls Try.prog 19 #[.int .i64 j, .pointer (some ⟨mb, 0, none⟩)] w fun e w' => e = .returned (.bool (bth mt j)) ∧ w' = w := by
  have hix := index_eq hm 33 Try.sl33 Try.ce33 j hj
  have hcl := cell_bool hm j hj
  go_enter Try.func19, Try.ntmps19
  go_wp2
  go_ret
  exact ⟨rfl, rfl⟩

theorem ret_int {k : IntKind} {a b : Int} (h : a = b) : Ending.returned (.int k a) = .returned (.int k b) := by rw [h]

/-- The two counts of outOfOrder, behind names. -/
def ooT (inA b : List Int) (mt : List Bool) (j : Nat) : Nat := (Plain.ooTo inA b mt j).1
def ooK (inA b : List Int) (mt : List Bool) (j : Nat) : Nat := (Plain.ooTo inA b mt j).2

theorem oo_no (inA b : List Int) (mt : List Bool) (j : Nat) (h : bth mt j = false) : ooT inA b mt (j + 1) = ooT inA b mt j ∧ ooK inA b mt (j + 1) = ooK inA b mt j := by
  unfold bth at h
  unfold ooT ooK
  have e : Plain.ooTo inA b mt (j + 1) = Plain.ooTo inA b mt j := by
    conv => lhs; unfold Plain.ooTo
    rw [if_neg (by rw [h]; simp)]
  rw [e]; exact ⟨rfl, rfl⟩
theorem oo_same (inA b : List Int) (mt : List Bool) (j : Nat) (h : bth mt j = true) (h2 : nth inA (ooK inA b mt j) = nth b j) : ooT inA b mt (j + 1) = ooT inA b mt j ∧ ooK inA b mt (j + 1) = ooK inA b mt j + 1 := by
  unfold bth at h; unfold nth ooK at h2
  constructor
  · show (Plain.ooTo inA b mt (j + 1)).1 = _
    unfold Plain.ooTo; rw [if_pos h, if_pos h2]; rfl
  · show (Plain.ooTo inA b mt (j + 1)).2 = _
    unfold Plain.ooTo; rw [if_pos h]; rfl
theorem oo_other (inA b : List Int) (mt : List Bool) (j : Nat) (h : bth mt j = true) (h2 : ¬ nth inA (ooK inA b mt j) = nth b j) : ooT inA b mt (j + 1) = ooT inA b mt j + 1 ∧ ooK inA b mt (j + 1) = ooK inA b mt j + 1 := by
  unfold bth at h; unfold nth ooK at h2
  constructor
  · show (Plain.ooTo inA b mt (j + 1)).1 = _
    unfold Plain.ooTo; rw [if_pos h, if_neg h2]; rfl
  · show (Plain.ooTo inA b mt (j + 1)).2 = _
    unfold Plain.ooTo; rw [if_pos h]; rfl

set_option maxHeartbeats 800000 in
theorem oo_long (vi vb vm : Value) (mb : Nat) (inA B : List Int) (mt : List Bool) (w : World) {b1 b2 b3 : Nat} {e1 e2 e3 : TypeId}
    (hi : w.ownsInts b1 e1 .i32 vi inA) (hb : w.ownsInts b2 e2 .i32 vb B) (hm : w.ownsRow b3 e3 1 vm mt.length (mt.map Value.bool))
    (hcm : w.cell? ⟨mb, 0, none⟩ = some vm) (hl : mt.length = B.length) (hc : inA.length = Plain.cnt mt) (hB : B.length ≤ 1048576) :
    Calls Try.prog 18 #[vi, vb, .func (.func 19) #[] #[.pointer (some ⟨mb, 0, none⟩)]] w fun e w' => e = .returned (.int .i64 ((ooT inA B mt B.length / 2 : Nat) : Int)) ∧ w' = w := by
  have hlb := len_eq (P := Try.prog) hb.1 22 Try.sl22
  go_enter Try.func18, Try.ntmps18
  go_wp2
  go_loop [7, 8, 13] (fun t k j => ∃ n : Nat, n ≤ B.length ∧ j = .int .i64 n ∧ t = .int .i64 (ooT inA B mt n) ∧ k = .int .i64 (ooK inA B mt n)) (fun _ _ j => B.length - (intOf j).toNat)
  case atStart => exact ⟨0, Nat.zero_le _, rfl, rfl, rfl⟩
  case round =>
    obtain ⟨n, hn, rfl, rfl, rfl⟩ := hrel
    have hle := Plain.oo_le inA B mt n
    have hle1 : ooT inA B mt n ≤ n := hle.1
    have hle2 : ooK inA B mt n ≤ n := hle.2
    clear hle
    by_cases hlt : n < B.length
    · have hixb := index_eq hb.1 22 Try.sl22 Try.ce22 n hlt
      have hclb := cell_int hb n hlt
      cases hmt : bth mt n with
      | false =>
        have hR := oo_no inA B mt n hmt
        have HR : Hid (ooT inA B mt (n + 1) = ooT inA B mt n ∧ ooK inA B mt (n + 1) = ooK inA B mt n) := hR
        clear hR
        go_wp2_with (go_at_call 19; refine (clos19 vm mb mt _ hm hcm n (by omega)).mono ?_; rintro e w' ⟨rfl, rfl⟩)
        go_round
        case rel => exact ⟨n + 1, by omega, by go_num, by rw [HR.out.1], by rw [HR.out.2]⟩
        case measure => simp [intOf]; omega
      | true =>
        have hk : ooK inA B mt n < inA.length := Plain.oo_lt inA B mt hc n (by omega) hmt
        have hixi := index_eq hi.1 22 Try.sl22 Try.ce22 (ooK inA B mt n) hk
        have hcli := cell_int hi (ooK inA B mt n) hk
        by_cases heq : nth inA (ooK inA B mt n) = nth B n
        · have HR : Hid (ooT inA B mt (n + 1) = ooT inA B mt n ∧ ooK inA B mt (n + 1) = ooK inA B mt n + 1) := oo_same inA B mt n hmt heq
          have hq : (nth inA (ooK inA B mt n) != nth B n) = false := by simp [heq]
          clear heq
          go_wp2_with (go_at_call 19; refine (clos19 vm mb mt _ hm hcm n (by omega)).mono ?_; rintro e w' ⟨rfl, rfl⟩)
          go_round
          case rel => exact ⟨n + 1, by omega, by go_num, by rw [HR.out.1], by rw [HR.out.2]; go_num⟩
          case measure => simp [intOf]; omega
        · have HR : Hid (ooT inA B mt (n + 1) = ooT inA B mt n + 1 ∧ ooK inA B mt (n + 1) = ooK inA B mt n + 1) := oo_other inA B mt n hmt heq
          have hq : (nth inA (ooK inA B mt n) != nth B n) = true := by simp [heq]
          clear heq
          go_wp2_with (go_at_call 19; refine (clos19 vm mb mt _ hm hcm n (by omega)).mono ?_; rintro e w' ⟨rfl, rfl⟩)
          go_round
          case rel => exact ⟨n + 1, by omega, by go_num, by rw [HR.out.1]; go_num, by rw [HR.out.2]; go_num⟩
          case measure => simp [intOf]; omega
    · have hn' : n = B.length := by omega
      subst hn'
      go_wp2
      go_ret
      exact ⟨ret_int (by omega), rfl⟩

end Go.Proofs.Qxb6003855a
