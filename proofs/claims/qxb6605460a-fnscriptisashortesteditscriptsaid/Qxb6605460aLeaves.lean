/-
  The seat b6605460a: zzDiffDeletesThenInserts (F18), zzDiffWalkInts (F17).
-/
import Derived.Test.Qxb6605460aLaws
import Derived.BigQuiet
import Derived.Deep.QuietTactic
namespace Go.Proofs.Qxb6605460a
open Go.RowKit Go.Maps

/-- May line i of A be matched with line j of B? -/
def EI (A B : List Int) (i j : Nat) : Bool := decide (i < A.length) && (decide (j < B.length) && (nth A i == nth B j))

theorem EI_lt (A B : List Int) (i j : Nat) (h : EI A B i j = true) : i < A.length ∧ j < B.length := by
  unfold EI at h; simp at h; exact ⟨h.1, h.2.1⟩
theorem EI_eq {A B : List Int} {i j : Nat} (h : EI A B i j = true) : nth A i = nth B j := by
  unfold EI at h; simp at h; exact h.2.2
theorem EI_mk {A B : List Int} {i j : Nat} (h1 : i < A.length) (h2 : j < B.length) (h3 : nth A i = nth B j) : EI A B i j = true := by
  unfold EI; simp [h1, h2, h3]
theorem EI_not {A B : List Int} {i j : Nat} (h : ¬ nth A i = nth B j) : EI A B i j = false := by
  unfold EI; simp [h]

theorem drop_at {l : List Int} {k : Nat} (h : k < l.length) : l.drop k = nth l k :: l.drop (k + 1) := by
  rw [List.drop_eq_getElem_cons h, nth_eq h]

/-- All of the one deleted, then all of the other inserted. -/
def whole (n m : Nat) : List Int := List.replicate n 1 ++ List.replicate m 2
theorem whole_len (n m : Nat) : (whole n m).length = n + m := by simp [whole]
theorem whole_del {n m t : Nat} (h : t < n) : nth (whole n m) t = 1 := by
  simp [nth, whole, List.getD, List.getElem?_append, h]
theorem whole_ins {n m t : Nat} (h : n ≤ t) (h2 : t < n + m) : nth (whole n m) t = 2 := by
  rw [nth_eq (by rw [whole_len]; exact h2)]
  unfold whole
  rw [List.getElem_append_right (by simpa using h)]
  simp

set_option maxHeartbeats 400000 in
theorem dti_any (vo : Value) (n m : Nat) (w : World) {b1 : Nat} {e1 : TypeId} (ho : w.ownsInts b1 e1 .i64 vo (whole n m)) (hn : n ≤ 1048576) (hm : m ≤ 1048576) :
    Calls Try.prog 18 #[vo, .int .i64 n, .int .i64 m] w fun e w' => e = .returned (.bool true) ∧ w = w' := by
  have hlo := len_eq (P := Try.prog) ho.1 25 Try.sl25
  have hwl := whole_len n m
  rw [hwl] at hlo
  have e1 : ((n + m : Nat) : Int) = (n : Int) + m := by omega
  rw [e1] at hlo
  have HWL : Hid ((whole n m).length = n + m) := hwl
  clear hwl e1
  go_enter Try.func18, Try.ntmps18
  go_wp2
  go_loop [7] (fun t => ∃ k : Nat, k ≤ n + m ∧ t = .int .i64 k) (fun t => n + m - (intOf t).toNat)
  case atStart => exact ⟨0, Nat.zero_le _, rfl⟩
  case round =>
    obtain ⟨k, hk, rfl⟩ := hrel
    by_cases hlt : k < n + m
    · have hix := index_eq ho.1 25 Try.sl25 Try.ce25 k (by rw [HWL.out]; exact hlt)
      have hc := cell_int ho k (by rw [HWL.out]; exact hlt)
      by_cases hkn : k < n
      · rw [whole_del hkn] at hc
        go_wp2
        go_round
        case rel => exact ⟨k + 1, by omega, by go_num⟩
        case measure => simp [intOf]; omega
      · rw [whole_ins (by omega) hlt] at hc
        go_wp2
        go_round
        case rel => exact ⟨k + 1, by omega, by go_num⟩
        case measure => simp [intOf]; omega
    · go_wp2
      go_ret
      exact ⟨rfl, rfl⟩

set_option maxHeartbeats 1000000 in
theorem walk_any (vo va vb : Value) (ops A B : List Int) (c0 : Nat) (w : World) {b1 b2 b3 : Nat} {e1 e2 e3 : TypeId} (ho : w.ownsInts b1 e1 .i64 vo ops) (ha : w.ownsInts b2 e2 .i64 va A) (hb : w.ownsInts b3 e3 .i64 vb B)
    (hA : A.length ≤ 1048576) (hB : B.length ≤ 1048576) (hp : Plain.Path (EI A B) A.length B.length ops 0 0 c0) (hc0 : c0 ≤ 4194304) :
    Calls Try.prog 17 #[vo, va, vb] w fun e w' => e = .returned (.tuple #[.bool true, .int .i64 c0]) ∧ ∃ q, w' = w.drewN q := by
  have hlo := len_eq (P := Try.prog) ho.1 25 Try.sl25
  have hla := len_eq (P := Try.prog) ha.1 22 Try.sl22
  have hlb := len_eq (P := Try.prog) hb.1 22 Try.sl22
  have hpl := Plain.path_len hp
  have hol : ops.length ≤ 4194304 := by omega
  clear hpl
  have HP : Hid (Plain.Path (EI A B) A.length B.length (ops.drop 0) 0 0 c0) := hp
  clear hp
  go_enter Try.func17, Try.ntmps17
  go_wp2
  go_loopw [8, 9, 10, 11] (fun iv jv cv tv wr => ∃ i j c t q : Nat, t ≤ ops.length ∧ iv = .int .i64 i ∧ jv = .int .i64 j ∧ cv = .int .i64 c ∧ tv = .int .i64 t ∧ c ≤ c0 ∧ Plain.Path (EI A B) A.length B.length (ops.drop t) i j (c0 - c) ∧ wr = w.drewN q) (fun _ _ _ tv _ => ops.length - (intOf tv).toNat)
  case atStart => exact ⟨0, 0, 0, 0, 0, Nat.zero_le _, rfl, rfl, rfl, rfl, Nat.zero_le _, HP.out, rfl⟩
  case round =>
    clear HP
    obtain ⟨i, j, c, t, q, ht, rfl, rfl, rfl, rfl, hc, hpath, rfl⟩ := hrel
    have hpl := Plain.path_len hpath
    have hi := hpl.1
    have hj := hpl.2.1
    clear hpl
    by_cases hlt : t < ops.length
    · have hix := index_eq ho.1 25 Try.sl25 Try.ce25 t hlt
      have hcl := cell_int ho t hlt
      rw [drop_at hlt] at hpath
      rcases hpath with ⟨h0, h1, h2, h3, h4⟩ | ⟨h0, h1, h2, h4⟩ | ⟨h0, h1, h2, h4⟩
      · rw [h0] at hcl
        have HN : Hid (Plain.Path (EI A B) A.length B.length (ops.drop (t + 1)) (i + 1) (j + 1) (c0 - c)) := h4
        have hixa := index_eq ha.1 22 Try.sl22 Try.ce22 i h1
        have hixb := index_eq hb.1 22 Try.sl22 Try.ce22 j h2
        have hca := cell_int ha i h1
        have hcb := cell_int hb j h2
        have hq : (nth A i != nth B j) = false := by simp [EI_eq h3]
        have hd1 : decide ((A.length : Int) ≤ (i : Int)) = false := by simp; omega
        have hd2 : decide ((B.length : Int) ≤ (j : Int)) = false := by simp; omega
        clear h0 h3 h4
        go_wp2
        go_quiet (fail)
        go_wp2
        go_roundw
        case rel => exact ⟨i + 1, j + 1, c, t + 1, q + nq, by omega, by go_num, by go_num, rfl, by go_num, hc, HN.out, by simp⟩
        case measure => simp [intOf]; omega
      · rw [h0] at hcl
        have HN : Hid (Plain.Path (EI A B) A.length B.length (ops.drop (t + 1)) (i + 1) j (c0 - c - 1)) := h4
        clear h0 h4
        go_wp2
        go_roundw
        case rel => exact ⟨i + 1, j, c + 1, t + 1, q, by omega, by go_num, rfl, by go_num, by go_num, by omega, HN.out, rfl⟩
        case measure => simp [intOf]; omega
      · rw [h0] at hcl
        have HN : Hid (Plain.Path (EI A B) A.length B.length (ops.drop (t + 1)) i (j + 1) (c0 - c - 1)) := h4
        clear h0 h4
        go_wp2
        go_roundw
        case rel => exact ⟨i, j + 1, c + 1, t + 1, q, by omega, rfl, by go_num, by go_num, by go_num, by omega, HN.out, rfl⟩
        case measure => simp [intOf]; omega
    · have hd0 : ops.drop t = [] := List.drop_eq_nil_of_le (by omega)
      rw [hd0] at hpath
      obtain ⟨rfl, rfl, hz⟩ := hpath
      have hcc : c = c0 := by omega
      subst hcc
      clear hz hd0
      go_wp2
      go_ret2
      exact ⟨rfl, q, rfl⟩

end Go.Proofs.Qxb6605460a
