/-
  The seat b6605460a: zzDiffReplacedWhole (F14).
-/
import Derived.Test.Qxb6605460aSLaws
import Derived.Deep.CutRange
import Derived.Deep.QuietTactic
namespace Go.Proofs.Qxb6605460a
open Go.RowKit Go.Maps

section
variable {p s n' m' : Nat}
theorem jn_len : (join p s (whole n' m')).length = p + n' + m' + s := by simp [join, whole]; omega
theorem jn_pre {t : Nat} (h : t < p) : nth (join p s (whole n' m')) t = 0 := by
  unfold join nth
  rw [List.append_assoc]
  simp only [List.getD]
  rw [List.getElem?_append_left (by simpa using h), List.getElem?_replicate, if_pos h]
  rfl
theorem jn_mid {t : Nat} (h : t < n' + m') : nth (join p s (whole n' m')) (p + t) = nth (whole n' m') t := by
  unfold join nth
  simp only [List.getD]
  rw [List.getElem?_append_left (by simp [whole]; omega), List.getElem?_append_right (by simp)]
  simp
theorem jn_del {t : Nat} (h : t < n') : nth (join p s (whole n' m')) (p + t) = 1 := by rw [jn_mid (by omega), whole_del h]
theorem jn_ins {t : Nat} (h : t < m') : nth (join p s (whole n' m')) (p + n' + t) = 2 := by rw [Nat.add_assoc, jn_mid (by omega), whole_ins (by omega) (by omega)]
theorem jn_suf {t : Nat} (h : t < s) : nth (join p s (whole n' m')) (p + n' + m' + t) = 0 := by
  unfold join nth
  simp only [List.getD]
  rw [List.getElem?_append_right (by simp [whole]; omega)]
  have e : p + n' + m' + t - (List.replicate p (0 : Int) ++ whole n' m').length = t := by simp [whole]; omega
  rw [e, List.getElem?_replicate, if_pos h]
  rfl
end

/-- What the first test of a round says. -/
theorem bool_of {b c : Bool} (h : c = b) : Value.bool b = Value.bool c := by rw [h]

set_option maxHeartbeats 3000000 in
set_option maxRecDepth 100000 in
theorem rep_any (vo va vb : Value) (A B : List Int) (p s n' m' : Nat) (w : World) {b1 : Nat} {e1 : TypeId} (ho : w.ownsInts b1 e1 .i64 vo (join p s (whole n' m'))) (ha : SC w va A) (hb : SC w vb B)
    (hp : IsPre A B p) (hs : IsSuf A B p s) (hla : p + n' + s = A.length) (hlb : p + m' + s = B.length) (hA : A.length ≤ 4096) (hB : B.length ≤ 4096) :
    Calls Try.prog 14 #[vo, va, vb] w fun e w' => e = .returned (.bool true) ∧ ∃ q, w' = w.drewN q := by
  have hlo := len_eq (P := Try.prog) ho.1 25 Try.sl25
  rw [jn_len] at hlo
  have hna := ha.len
  have hnb := hb.len
  have a1 : p + n' + s ≤ A.length := by omega
  have a2 : A.length ≤ p + n' + s := by omega
  have b1 : p + m' + s ≤ B.length := by omega
  have b2 : B.length ≤ p + m' + s := by omega
  clear hla hlb
  go_enter Try.func14, Try.ntmps14
  go_wp2
  go_loopw [9] (fun pv wr => ∃ k q : Nat, k ≤ p ∧ pv = .int .i64 k ∧ wr = w.drewN q) (fun pv _ => p - (intOf pv).toNat)
  case atStart => exact ⟨0, 0, Nat.zero_le _, rfl, rfl⟩
  case round =>
    obtain ⟨k, q, hk, rfl, rfl⟩ := hrel
    go_upto_region 3 with fail
    go_cut [38] from 20 to 40 (fun c wx => c = .bool (decide (k < p)) ∧ ∃ q' : Nat, wx = w.drewN q')
    case first =>
      by_cases hlt : k < p
      · have HD : Hid (decide (k < p) = true) := decide_eq_true hlt
        have ixa := ha.index _ k rfl (by omega)
        have ixb := hb.index _ k rfl (by omega)
        obtain ⟨sa, ca, hsa⟩ := ha.cell k (by omega)
        obtain ⟨sb, cb, hsb⟩ := hb.cell k (by omega)
        have hq := eqs hsa hsb (hp.eq k hlt)
        have h1 : k < A.length := by omega
        have h2 : k < B.length := by omega
        clear hsa hsb
        go_quiet (fail)
        go_wp2
        go_meet
        case rel => exact ⟨bool_of HD.out, q + nq, by simp⟩
      · have HD : Hid (decide (k < p) = false) := decide_eq_false hlt
        have hkp : k = p := by omega
        by_cases h1 : k < A.length
        · have g1 : decide ((k : Int) < (A.length : Int)) = true := by simp; omega
          by_cases h2 : k < B.length
          · have ixa := ha.index _ k rfl (by omega)
            have ixb := hb.index _ k rfl (by omega)
            obtain ⟨sa, ca, hsa⟩ := ha.cell k (by omega)
            obtain ⟨sb, cb, hsb⟩ := hb.cell k (by omega)
            have hq := neqs hsa hsb (by rw [hkp]; exact hp.stop (by omega) (by omega))
            have g2 : decide ((k : Int) < (B.length : Int)) = true := by simp; omega
            clear hsa hsb hkp hlt
            go_quiet (fail)
            go_wp2
            go_meet
            case rel => exact ⟨bool_of HD.out, q + nq, by simp⟩
          · have g2 : decide ((k : Int) < (B.length : Int)) = false := by simp; omega
            clear hkp hlt
            go_quiet (fail)
            go_wp2
            go_meet
            case rel => exact ⟨bool_of HD.out, q + nq, by simp⟩
        · have g1 : decide ((k : Int) < (A.length : Int)) = false := by simp; omega
          clear hkp hlt
          go_quiet (fail)
          go_wp2
          go_meet
          case rel => exact ⟨bool_of HD.out, q + nq, by simp⟩
    case rest =>
      obtain ⟨rfl, q', rfl⟩ := hcut
      by_cases hlt : k < p
      · have hd : decide (k < p) = true := decide_eq_true hlt
        rw [hd]
        clear hd
        go_wp2
        go_roundw
        case rel => exact ⟨k + 1, q', by omega, by go_num, rfl⟩
        case measure => simp [intOf]; omega
      · have hd : decide (k < p) = false := decide_eq_false hlt
        rw [hd]
        obtain rfl : k = p := by omega
        clear hd hlt hk
        go_wp2
        go_loopw [10] (fun sv wr => ∃ j q : Nat, j ≤ s ∧ sv = .int .i64 j ∧ wr = w.drewN q) (fun sv _ => s - (intOf sv).toNat)
        case atStart => exact ⟨0, _, Nat.zero_le _, rfl, rfl⟩
        case round =>
          obtain ⟨j, q2, hj, rfl, rfl⟩ := hrel
          go_upto_region 6 with fail
          go_cut [69] from 41 to 71 (fun c wx => c = .bool (decide (j < s)) ∧ ∃ q' : Nat, wx = w.drewN q')
          case first =>
            by_cases hlt : j < s
            · have HD : Hid (decide (j < s) = true) := decide_eq_true hlt
              have ixa := ha.index ((A.length : Int) - 1 - j) (A.length - 1 - j) (by omega) (by omega)
              have ixb := hb.index ((B.length : Int) - 1 - j) (B.length - 1 - j) (by omega) (by omega)
              obtain ⟨sa, ca, hsa⟩ := ha.cell (A.length - 1 - j) (by omega)
              obtain ⟨sb, cb, hsb⟩ := hb.cell (B.length - 1 - j) (by omega)
              have hq := eqs hsa hsb (hs.eq j hlt)
              have g1 : decide ((j : Int) < (A.length : Int) - k) = true := by simp; omega
              have g2 : decide ((j : Int) < (B.length : Int) - k) = true := by simp; omega
              clear hsa hsb
              go_quiet (fail)
              go_wp2
              go_meet
              case rel => exact ⟨bool_of HD.out, q2 + nq, by simp⟩
            · have HD : Hid (decide (j < s) = false) := decide_eq_false hlt
              have hjs : j = s := by omega
              by_cases h1 : (j : Int) < (A.length : Int) - k
              · have g1 : decide ((j : Int) < (A.length : Int) - k) = true := by simp; omega
                by_cases h2 : (j : Int) < (B.length : Int) - k
                · have ixa := ha.index ((A.length : Int) - 1 - j) (A.length - 1 - j) (by omega) (by omega)
                  have ixb := hb.index ((B.length : Int) - 1 - j) (B.length - 1 - j) (by omega) (by omega)
                  obtain ⟨sa, ca, hsa⟩ := ha.cell (A.length - 1 - j) (by omega)
                  obtain ⟨sb, cb, hsb⟩ := hb.cell (B.length - 1 - j) (by omega)
                  have hq := neqs hsa hsb (by rw [hjs]; exact hs.stop (by omega) (by omega))
                  have g2 : decide ((j : Int) < (B.length : Int) - k) = true := by simp; omega
                  clear hsa hsb hjs hlt
                  go_quiet (fail)
                  go_wp2
                  go_meet
                  case rel => exact ⟨bool_of HD.out, q2 + nq, by simp⟩
                · have g2 : decide ((j : Int) < (B.length : Int) - k) = false := by simp; omega
                  clear hjs hlt
                  go_quiet (fail)
                  go_wp2
                  go_meet
                  case rel => exact ⟨bool_of HD.out, q2 + nq, by simp⟩
              · have g1 : decide ((j : Int) < (A.length : Int) - k) = false := by simp; omega
                clear hjs hlt
                go_quiet (fail)
                go_wp2
                go_meet
                case rel => exact ⟨bool_of HD.out, q2 + nq, by simp⟩
          case rest =>
            obtain ⟨rfl, q3, rfl⟩ := hcut
            by_cases hlt : j < s
            · have hd : decide (j < s) = true := decide_eq_true hlt
              rw [hd]
              clear hd
              go_wp2
              go_roundw
              case rel => exact ⟨j + 1, q3, by omega, by go_num, rfl⟩
              case measure => simp [intOf]; omega
            · have hd : decide (j < s) = false := decide_eq_false hlt
              rw [hd]
              obtain rfl : j = s := by omega
              clear hd hlt hj
              have hne : (((k + n' + m' + j : Nat) : Int) != (A.length : Int) + B.length - k - j) = false := by simp; omega
              go_wp2
              clear hne
              go_loopw [11, 12] (fun tv qv wr => ∃ x3 : Nat, x3 ≤ k ∧ qv = .int .i64 x3 ∧ tv = .int .i64 (x3 : Nat) ∧ wr = w.drewN q3) (fun _ qv _ => k - (intOf qv).toNat)
              case atStart => exact ⟨0, Nat.zero_le _, rfl, rfl, rfl⟩
              case round =>
                obtain ⟨x3, hx3, rfl, rfl, rfl⟩ := hrel
                by_cases hlt : x3 < k
                · have ix := index_at ho.1 25 Try.sl25 Try.ce25 ((x3 : Int)) (x3) (by omega) (by rw [jn_len]; omega)
                  have cl := cell_int ho (x3) (by rw [jn_len]; omega)
                  rw [jn_pre hlt] at cl
                  skip
                  go_wp2
                  go_roundw
                  case rel => exact ⟨x3 + 1, by omega, by go_num, by go_num, trivial⟩
                  case measure => simp [intOf]; omega
                · skip
                  obtain rfl : k = x3 := by omega
                  go_wp2
                  clear hlt hx3
                  go_loopw [11, 13] (fun tv qv wr => ∃ x4 : Nat, x4 ≤ n' ∧ qv = .int .i64 x4 ∧ tv = .int .i64 (k + x4 : Nat) ∧ wr = w.drewN q3) (fun _ qv _ => n' - (intOf qv).toNat)
                  case atStart => exact ⟨0, Nat.zero_le _, rfl, rfl, rfl⟩
                  case round =>
                    obtain ⟨x4, hx4, rfl, rfl, rfl⟩ := hrel
                    by_cases hlt : x4 < n'
                    · have ix := index_at ho.1 25 Try.sl25 Try.ce25 ((k : Int) + (x4 : Int)) (k + x4) (by omega) (by rw [jn_len]; omega)
                      have cl := cell_int ho (k + x4) (by rw [jn_len]; omega)
                      rw [jn_del hlt] at cl
                      have hc : (x4 : Int) < (A.length : Int) - k - j ↔ x4 < n' := by omega
                      go_wp2
                      go_roundw
                      case rel => exact ⟨x4 + 1, by omega, by go_num, by go_num, trivial⟩
                      case measure => simp [intOf]; omega
                    · have hc : (x4 : Int) < (A.length : Int) - k - j ↔ x4 < n' := by omega
                      obtain rfl : n' = x4 := by omega
                      go_wp2
                      clear hlt hx4
                      go_loopw [11, 14] (fun tv qv wr => ∃ x5 : Nat, x5 ≤ m' ∧ qv = .int .i64 x5 ∧ tv = .int .i64 (k + n' + x5 : Nat) ∧ wr = w.drewN q3) (fun _ qv _ => m' - (intOf qv).toNat)
                      case atStart => exact ⟨0, Nat.zero_le _, rfl, rfl, rfl⟩
                      case round =>
                        obtain ⟨x5, hx5, rfl, rfl, rfl⟩ := hrel
                        by_cases hlt : x5 < m'
                        · have ix := index_at ho.1 25 Try.sl25 Try.ce25 ((k : Int) + (n' : Int) + (x5 : Int)) (k + n' + x5) (by omega) (by rw [jn_len]; omega)
                          have cl := cell_int ho (k + n' + x5) (by rw [jn_len]; omega)
                          rw [jn_ins hlt] at cl
                          have hc : (x5 : Int) < (B.length : Int) - k - j ↔ x5 < m' := by omega
                          go_wp2
                          go_roundw
                          case rel => exact ⟨x5 + 1, by omega, by go_num, by go_num, trivial⟩
                          case measure => simp [intOf]; omega
                        · have hc : (x5 : Int) < (B.length : Int) - k - j ↔ x5 < m' := by omega
                          obtain rfl : m' = x5 := by omega
                          go_wp2
                          clear hlt hx5
                          go_loopw [11, 15] (fun tv qv wr => ∃ x6 : Nat, x6 ≤ j ∧ qv = .int .i64 x6 ∧ tv = .int .i64 (k + n' + m' + x6 : Nat) ∧ wr = w.drewN q3) (fun _ qv _ => j - (intOf qv).toNat)
                          case atStart => exact ⟨0, Nat.zero_le _, rfl, rfl, rfl⟩
                          case round =>
                            obtain ⟨x6, hx6, rfl, rfl, rfl⟩ := hrel
                            by_cases hlt : x6 < j
                            · have ix := index_at ho.1 25 Try.sl25 Try.ce25 ((k : Int) + (n' : Int) + (m' : Int) + (x6 : Int)) (k + n' + m' + x6) (by omega) (by rw [jn_len]; omega)
                              have cl := cell_int ho (k + n' + m' + x6) (by rw [jn_len]; omega)
                              rw [jn_suf hlt] at cl
                              skip
                              go_wp2
                              go_roundw
                              case rel => exact ⟨x6 + 1, by omega, by go_num, by go_num, trivial⟩
                              case measure => simp [intOf]; omega
                            · skip
                              obtain rfl : j = x6 := by omega
                              go_wp2
                              clear hlt hx6
                              go_ret
                              exact ⟨rfl, _, rfl⟩

end Go.Proofs.Qxb6605460a
