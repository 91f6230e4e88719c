/-
  The seat b6605460a: zzDiffShortestMeetsSpec (F8), ZZShortest (F7), FnShortestIsAShortestEditScript (F3).
-/
import Derived.Test.Qxb6605460aSearch
import Derived.Test.Qxb6605460aCopy
namespace Go.Proofs.Qxb6605460a
open Go.RowKit Go.Maps

set_option maxHeartbeats 800000 in
theorem meets_any (vo va vb : Value) (ops A B : List Int) (w : World) {b1 b2 b3 : Nat} {e1 e2 e3 : TypeId} (ho : w.ownsInts b1 e1 .i64 vo ops) (ha : w.ownsInts b2 e2 .i64 va A) (hb : w.ownsInts b3 e3 .i64 vb B)
    (hA : A.length ≤ 4096) (hB : B.length ≤ 4096) (hs : Short (EI A B) A.length B.length (Plain.D (EI A B) A.length B.length) ops) :
    Calls Try.prog 8 #[vo, va, vb] w fun e w' => e = .returned (.bool true) ∧ Below w.heap.size w w' := by
  have hla := len_eq (P := Try.prog) ha.1 22 Try.sl22
  have hlb := len_eq (P := Try.prog) hb.1 22 Try.sl22
  have HLC := lcs_any va vb A B w ha hb (by omega) (by omega)
  have hLle := (Plain.Lc_le (EI A B) A.length B.length).1
  have hLle2 := (Plain.Lc_le (EI A B) A.length B.length).2
  have hD : Plain.D (EI A B) A.length B.length = (A.length : Int) + B.length - 2 * (Plain.Lc (EI A B) A.length B.length : Int) := rfl
  rw [hD] at hs
  clear hD
  generalize Plain.Lc (EI A B) A.length B.length = L at *
  have HL : Hid (Calls Try.prog 16 #[va, vb] w fun e w' => e = .returned (.int .i64 (L : Int)) ∧ Below w.heap.size w w') := HLC
  clear HLC
  by_cases hd : (A.length : Int) + B.length - 2 * (L : Int) ≤ 1000
  · have HP : Hid (Plain.Path (EI A B) A.length B.length ops 0 0 ((A.length : Int) + B.length - 2 * (L : Int)).toNat) := hs.1 hd
    obtain ⟨c0, hc0⟩ : ∃ c0 : Nat, c0 = ((A.length : Int) + B.length - 2 * (L : Int)).toNat := ⟨_, rfl⟩
    rw [← hc0] at HP
    have hq : ((c0 : Int) == (A.length : Int) + B.length - 2 * (L : Int)) = true := by rw [beq_iff_eq]; omega
    have hc0b : c0 ≤ 4194304 := by omega
    clear hc0 hs
    go_enter Try.func8, Try.ntmps8
    go_wp2_with (first | (go_at_call 16; refine Calls.mono HL.out ?_; rintro e w1 ⟨rfl, hb1⟩) | (go_at_call 17; refine (walk_any vo va vb ops A B c0 _ (ownsInts_later ho hb1) (ownsInts_later ha hb1) (ownsInts_later hb hb1) (by omega) (by omega) HP.out hc0b).mono ?_; rintro e w2 ⟨rfl, q, rfl⟩))
    go_ret
    exact ⟨rfl, hb1.trans ⟨rfl, rfl, rfl, Nat.le_refl _, fun _ _ => rfl⟩⟩
  · have hw : ops = whole A.length B.length := hs.2 (by omega)
    subst hw
    have hd' : 1000 < (A.length : Int) + B.length - 2 * (L : Int) := by omega
    clear hs hd
    go_enter Try.func8, Try.ntmps8
    go_wp2_with (first | (go_at_call 16; refine Calls.mono HL.out ?_; rintro e w1 ⟨rfl, hb1⟩) | (go_at_call 18; refine (dti_any vo A.length B.length _ (ownsInts_later ho hb1) (by omega) (by omega)).mono ?_; rintro e w2 ⟨rfl, rfl⟩))
    go_ret
    exact ⟨rfl, hb1⟩

set_option maxHeartbeats 400000 in
theorem zzshort_any (va vb : Value) (A B : List Int) (w : World) {b1 b2 : Nat} {e1 e2 : TypeId} (ha : w.ownsInts b1 e1 .i64 va A) (hb : w.ownsInts b2 e2 .i64 vb B) (hA : A.length ≤ 4096) (hB : B.length ≤ 4096) :
    Calls Try.prog 7 #[va, vb] w fun e w' => ∃ v ops, e = .returned v ∧ w'.ownsInts w.heap.size 39 .i64 v ops ∧ Short (EI A B) A.length B.length (Plain.D (EI A B) A.length B.length) ops ∧ Below w.heap.size w w' := by
  go_enter Try.func7, Try.ntmps7
  go_wp2_with (go_at_call 15; refine (short_any va vb A B _ ha hb hA hB).mono ?_; rintro e w' ⟨v, ops, rfl, h1, h2, h3⟩)
  go_ret
  exact ⟨v, ops, rfl, h1, h2, h3⟩

set_option maxHeartbeats 1000000 in
theorem law_walk (a0 a1 : Option Addr) (n0 cap0 n1 cap1 : Nat) (z0 z1 : List Int) (w : World) (h0 : RowIn w a0 n0 cap0 z0) (h1 : RowIn w a1 n1 cap1 z1) :
    Calls Try.prog 3 #[.slice a0 n0 cap0, .slice a1 n1 cap1] w fun e w' => e = .returned (.bool true) ∧ Below w.heap.size w w' := by
  obtain ⟨m0, l0⟩ := h0.max
  obtain ⟨m1, l1⟩ := h1.max
  by_cases hs0 : n0 ≤ 4096
  · by_cases hs1 : n1 ≤ 4096
    · have HL0 : Hid ((z0.take n0).length = n0) := l0
      have HL1 : Hid ((z1.take n1).length = n1) := l1
      have HC0 : Hid (Calls Try.prog 6 #[.slice a0 n0 cap0] w fun e w' => ∃ v, e = .returned v ∧ w'.ownsInts w.heap.size 3 .i64 v (z0.take n0) ∧ Below w.heap.size w w') := copy_any a0 n0 cap0 z0 w (by omega) h0
      have HC1 : Hid (∀ w1, Below w.heap.size w w1 → Calls Try.prog 6 #[.slice a1 n1 cap1] w1 fun e w' => ∃ v, e = .returned v ∧ w'.ownsInts w1.heap.size 3 .i64 v (z1.take n1) ∧ Below w1.heap.size w1 w') := fun w1 hb => copy_any a1 n1 cap1 z1 w1 (by omega) (h1.later hb)
      clear h0 h1 l0 l1
      generalize z0.take n0 = A at *
      generalize z1.take n1 = B at *
      have tok1 : True := trivial
      go_enter Try.func3, Try.ntmps3
      go_wp2_with (first | (go_at_call 6; have _t := tok1; refine Calls.mono HC0.out ?_; rintro e w1 ⟨va, rfl, hoa, hb1⟩; clear tok1) | (go_at_call 6; refine Calls.mono (HC1.out _ hb1) ?_; rintro e w2 ⟨vb, rfl, hob, hb2⟩; have hoa2 := ownsInts_later hoa hb2) | (go_at_call 7; refine (zzshort_any va vb A B _ hoa2 hob (by rw [HL0.out]; omega) (by rw [HL1.out]; omega)).mono ?_; rintro e w3 ⟨vo, ops, rfl, hoo, hsh, hb3⟩; have hoa3 := ownsInts_later hoa2 hb3; have hob3 := ownsInts_later hob hb3) | (go_at_call 8; refine (meets_any vo va vb ops A B _ hoo hoa3 hob3 (by rw [HL0.out]; omega) (by rw [HL1.out]; omega) hsh).mono ?_; rintro e w4 ⟨rfl, hb4⟩) | go_in)
      go_ret
      exact ⟨rfl, ((hb1.trans (hb2.mono hb1.size)).trans (hb3.mono (Nat.le_trans hb1.size hb2.size))).trans (hb4.mono (Nat.le_trans (Nat.le_trans hb1.size hb2.size) hb3.size))⟩
    · clear h0 h1
      by_cases t1 : n1 ≤ 1048576
      · by_cases t2 : n0 + n1 ≤ 1048576
        · go_enter Try.func3, Try.ntmps3
          go_wp2
          go_ret
          exact ⟨rfl, Below.refl _ _⟩
        · go_enter Try.func3, Try.ntmps3
          go_wp2
          go_ret
          exact ⟨rfl, Below.refl _ _⟩
      · go_enter Try.func3, Try.ntmps3
        go_wp2
        go_ret
        exact ⟨rfl, Below.refl _ _⟩
  · clear h0 h1
    by_cases t0 : n0 ≤ 1048576
    · by_cases t1 : n1 ≤ 1048576
      · by_cases t2 : n0 + n1 ≤ 1048576
        · go_enter Try.func3, Try.ntmps3
          go_wp2
          go_ret
          exact ⟨rfl, Below.refl _ _⟩
        · go_enter Try.func3, Try.ntmps3
          go_wp2
          go_ret
          exact ⟨rfl, Below.refl _ _⟩
      · go_enter Try.func3, Try.ntmps3
        go_wp2
        go_ret
        exact ⟨rfl, Below.refl _ _⟩
    · go_enter Try.func3, Try.ntmps3
      go_wp2
      go_ret
      exact ⟨rfl, Below.refl _ _⟩

end Go.Proofs.Qxb6605460a
