/-
  The seat b6605460a: zzDiffWalkStrings (F13).
-/
import Derived.Test.Qxb6605460aSLaws
namespace Go.Proofs.Qxb6605460a
open Go.RowKit Go.Maps

set_option maxHeartbeats 1000000 in
theorem swalk_any (vo va vb : Value) (ops A B : List Int) (c0 : Nat) (w : World) {b1 : Nat} {e1 : TypeId} (ho : w.ownsInts b1 e1 .i64 vo ops) (ha : SC w va A) (hb : SC w vb B)
    (hA : A.length ≤ 1048576) (hB : B.length ≤ 1048576) (hp : Plain.Path (EI A B) A.length B.length ops 0 0 c0) (hc0 : c0 ≤ 4194304) :
    Calls Try.prog 13 #[vo, va, vb] w fun e w' => e = .returned (.tuple #[.bool true, .int .i64 c0]) ∧ ∃ q, w' = w.drewN q := by
  have hlo := len_eq (P := Try.prog) ho.1 25 Try.sl25
  have hla := ha.len
  have hlb := hb.len
  have hpl := Plain.path_len hp
  have hol : ops.length ≤ 4194304 := by omega
  clear hpl
  have HP : Hid (Plain.Path (EI A B) A.length B.length (ops.drop 0) 0 0 c0) := hp
  clear hp
  go_enter Try.func13, Try.ntmps13
  go_wp2
  go_loopw [8, 9, 10, 11] (fun iv jv cv tv wr => ∃ i j c t q : Nat, t ≤ ops.length ∧ iv = .int .i64 i ∧ jv = .int .i64 j ∧ cv = .int .i64 c ∧ tv = .int .i64 t ∧ c ≤ c0 ∧ Plain.Path (EI A B) A.length B.length (ops.drop t) i j (c0 - c) ∧ wr = w.drewN q) (fun _ _ _ tv _ => ops.length - (intOf tv).toNat)
  case atStart => exact ⟨0, 0, 0, 0, 0, Nat.zero_le _, rfl, rfl, rfl, rfl, Nat.zero_le _, HP.out, rfl⟩
  case round =>
    clear HP
    obtain ⟨i, j, c, t, q, ht, rfl, rfl, rfl, rfl, hc, hpath, rfl⟩ := hrel
    have hpl := Plain.path_len hpath
    have hi := hpl.1
    have hj := hpl.2.1
    clear hpl
    by_cases hlt : t < ops.length
    · have hix := index_eq ho.1 25 Try.sl25 Try.ce25 t hlt
      have hcl := cell_int ho t hlt
      rw [drop_at hlt] at hpath
      rcases hpath with ⟨h0, h1, h2, h3, h4⟩ | ⟨h0, h1, h2, h4⟩ | ⟨h0, h1, h2, h4⟩
      · rw [h0] at hcl
        have HN : Hid (Plain.Path (EI A B) A.length B.length (ops.drop (t + 1)) (i + 1) (j + 1) (c0 - c)) := h4
        have hixa := ha.index _ i rfl h1
        have hixb := hb.index _ j rfl h2
        obtain ⟨sa, hca, hsa⟩ := ha.cell i h1
        obtain ⟨sb, hcb, hsb⟩ := hb.cell j h2
        have hq := eqs' hsa hsb (EI_eq h3)
        have hd1 : decide ((A.length : Int) ≤ (i : Int)) = false := by simp; omega
        have hd2 : decide ((B.length : Int) ≤ (j : Int)) = false := by simp; omega
        clear h0 h3 h4 hsa hsb
        go_wp2
        go_quiet (fail)
        go_wp2
        go_roundw
        case rel => exact ⟨i + 1, j + 1, c, t + 1, q + nq, by omega, by go_num, by go_num, rfl, by go_num, hc, HN.out, by simp⟩
        case measure => simp [intOf]; omega
      · rw [h0] at hcl
        have HN : Hid (Plain.Path (EI A B) A.length B.length (ops.drop (t + 1)) (i + 1) j (c0 - c - 1)) := h4
        clear h0 h4
        go_wp2
        go_roundw
        case rel => exact ⟨i + 1, j, c + 1, t + 1, q, by omega, by go_num, rfl, by go_num, by go_num, by omega, HN.out, rfl⟩
        case measure => simp [intOf]; omega
      · rw [h0] at hcl
        have HN : Hid (Plain.Path (EI A B) A.length B.length (ops.drop (t + 1)) i (j + 1) (c0 - c - 1)) := h4
        clear h0 h4
        go_wp2
        go_roundw
        case rel => exact ⟨i, j + 1, c + 1, t + 1, q, by omega, rfl, by go_num, by go_num, by go_num, by omega, HN.out, rfl⟩
        case measure => simp [intOf]; omega
    · have hd0 : ops.drop t = [] := List.drop_eq_nil_of_le (by omega)
      rw [hd0] at hpath
      obtain ⟨rfl, rfl, hz⟩ := hpath
      have hcc : c = c0 := by omega
      subst hcc
      clear hz hd0
      go_wp2
      go_ret2
      exact ⟨rfl, q, rfl⟩

end Go.Proofs.Qxb6605460a
