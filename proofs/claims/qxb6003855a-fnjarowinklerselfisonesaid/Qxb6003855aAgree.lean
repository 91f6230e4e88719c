/-
  The seat b6003855a: FnMatchLongAgreesWithMatchShort: the walk.
-/
import Derived.Test.Qxb6003855aSelf
import Derived.Test.Qxb6003855aShort
namespace Go.Proofs.Qxb6003855a
open Go.RowKit Go.Maps

set_option maxHeartbeats 400000 in
theorem zzshort_any (va vb : Value) (A B : List Int) (w : World) {b1 b2 : Nat} {e1 e2 : TypeId}
    (ha : w.ownsInts b1 e1 .i32 va A) (hb : w.ownsInts b2 e2 .i32 vb B) (hA : A.length ≤ 1048576) (hB : B.length ≤ 64) :
    Calls Try.prog 10 #[va, vb] w fun e w' => e = .returned (.tuple #[.int .i64 ((Plain.lto A B A.length).inA.length : Int), .int .i64 ((ooT (Plain.lto A B A.length).inA B (Plain.lto A B A.length).mt B.length / 2 : Nat) : Int)]) ∧ Below w.heap.size w w' := by
  have hs := short_any va vb A B w ha hb hA hB
  rw [(Plain.agree A B A.length).2] at hs
  have HS : Hid (Calls Try.prog 16 #[va, vb] w fun e w' => e = .returned (.tuple #[.int .i64 ((Plain.lto A B A.length).inA.length : Int), .int .i64 ((ooT (Plain.lto A B A.length).inA B (Plain.lto A B A.length).mt B.length / 2 : Nat) : Int)]) ∧ Below w.heap.size w w') := hs
  clear hs
  go_enter Try.func10, Try.ntmps10
  go_wp2_with (go_at_call 16; refine Calls.mono HS.out ?_; rintro e w' ⟨rfl, hbe⟩)
  go_ret2
  exact ⟨rfl, hbe⟩

/-- A slice of runes that came in. -/
def RowIn (w : World) (a : Option Addr) (n cap : Nat) (zs : List Int) : Prop :=
  (a = none ∧ n = 0 ∧ cap = 0 ∧ zs = []) ∨ ∃ x, a = some x ∧ n ≤ cap ∧ cap ≤ maxLen ∧ zs.length = cap ∧ (∀ i, i < zs.length → w.cell? (x.add i) = some (.int .i32 (zs.getD i 0))) ∧ ∀ z ∈ zs, (Lit.int .i32 z).wf = true

theorem RowIn.later {w w' : World} {a : Option Addr} {n cap : Nat} {zs : List Int} (h : RowIn w a n cap zs) (hb : Below w.heap.size w w') : RowIn w' a n cap zs := by
  rcases h with h | ⟨x, h1, h2, h3, h4, h5, h6⟩
  · exact Or.inl h
  · refine Or.inr ⟨x, h1, h2, h3, h4, fun i hi => ?_, h6⟩
    rw [hb.cell (block_lt (h5 i hi))]
    exact h5 i hi

theorem RowIn.max {w : World} {a : Option Addr} {n cap : Nat} {zs : List Int} (h : RowIn w a n cap zs) : n ≤ 9223372036854775807 ∧ (zs.take n).length = n := by
  rcases h with ⟨rfl, rfl, rfl, rfl⟩ | ⟨x, rfl, hnc, hcm, hl, _⟩
  · simp
  · unfold maxLen at hcm; simp; omega

set_option maxHeartbeats 1000000 in
theorem agree_walk (a0 a1 : Option Addr) (n0 cap0 n1 cap1 : Nat) (z0 z1 : List Int) (w : World) (h0 : RowIn w a0 n0 cap0 z0) (h1 : RowIn w a1 n1 cap1 z1) :
    Calls Try.prog 3 #[.slice a0 n0 cap0, .slice a1 n1 cap1] w fun e w' => e = .returned (.bool true) ∧ Below w.heap.size w w' := by
  obtain ⟨m0, l0⟩ := h0.max
  obtain ⟨m1, l1⟩ := h1.max
  by_cases hs0 : n0 ≤ 65536
  · by_cases hs1 : n1 ≤ 64
    · have HL0 : Hid ((z0.take n0).length = n0) := l0
      have HL1 : Hid ((z1.take n1).length = n1) := l1
      have HC0 : Hid (Calls Try.prog 8 #[.slice a0 n0 cap0] w fun e w' => ∃ v, e = .returned v ∧ w'.ownsInts w.heap.size 21 .i32 v (z0.take n0) ∧ Below w.heap.size w w') := copy_any a0 n0 cap0 z0 w (by omega) h0
      have HC1 : Hid (∀ w1, Below w.heap.size w w1 → Calls Try.prog 8 #[.slice a1 n1 cap1] w1 fun e w' => ∃ v, e = .returned v ∧ w'.ownsInts w1.heap.size 21 .i32 v (z1.take n1) ∧ Below w1.heap.size w1 w') := fun w1 hb => copy_any a1 n1 cap1 z1 w1 (by omega) (h1.later hb)
      clear h0 h1 l0 l1
      generalize z0.take n0 = A at *
      generalize z1.take n1 = B at *
      have tok1 : True := trivial
      go_enter Try.func3, Try.ntmps3
      go_wp2_with (first | (go_at_call 8; have _t := tok1; refine Calls.mono HC0.out ?_; rintro e w1 ⟨va, rfl, hoa, hb1⟩; clear tok1) | (go_at_call 8; refine Calls.mono (HC1.out _ hb1) ?_; rintro e w2 ⟨vb, rfl, hob, hb2⟩; have hoa2 := ownsInts_later hoa hb2) | (go_at_call 9; refine (zzlong_any va vb A B _ hoa2 hob (by rw [HL0.out]; omega) (by rw [HL1.out]; omega)).mono ?_; rintro e w3 ⟨rfl, hb3⟩; have hoa3 := ownsInts_later hoa2 hb3; have hob3 := ownsInts_later hob hb3) | (go_at_call 10; refine (zzshort_any va vb A B _ hoa3 hob3 (by rw [HL0.out]; omega) (by rw [HL1.out]; omega)).mono ?_; rintro e w4 ⟨rfl, hb4⟩) | go_in)
      go_ret
      exact ⟨rfl, ((hb1.trans (hb2.mono hb1.size)).trans (hb3.mono (Nat.le_trans hb1.size hb2.size))).trans (hb4.mono (Nat.le_trans (Nat.le_trans hb1.size hb2.size) hb3.size))⟩
    · clear h0 h1
      by_cases t1 : n1 ≤ 1048576
      · by_cases t2 : n0 + n1 ≤ 1048576
        · go_enter Try.func3, Try.ntmps3
          go_wp2
          go_ret
          exact ⟨rfl, Below.refl _ _⟩
        · go_enter Try.func3, Try.ntmps3
          go_wp2
          go_ret
          exact ⟨rfl, Below.refl _ _⟩
      · go_enter Try.func3, Try.ntmps3
        go_wp2
        go_ret
        exact ⟨rfl, Below.refl _ _⟩
  · clear h0 h1
    by_cases t0 : n0 ≤ 1048576
    · by_cases t1 : n1 ≤ 1048576
      · by_cases t2 : n0 + n1 ≤ 1048576
        · go_enter Try.func3, Try.ntmps3
          go_wp2
          go_ret
          exact ⟨rfl, Below.refl _ _⟩
        · go_enter Try.func3, Try.ntmps3
          go_wp2
          go_ret
          exact ⟨rfl, Below.refl _ _⟩
      · go_enter Try.func3, Try.ntmps3
        go_wp2
        go_ret
        exact ⟨rfl, Below.refl _ _⟩
    · go_enter Try.func3, Try.ntmps3
      go_wp2
      go_ret
      exact ⟨rfl, Below.refl _ _⟩

end Go.Proofs.Qxb6003855a
