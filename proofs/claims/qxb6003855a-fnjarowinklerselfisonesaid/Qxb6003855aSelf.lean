/-
  The seat b6003855a: FnMatchLongSelfMatchesAllInOrder: the walk.
-/
import Derived.Test.Qxb6003855aLong
namespace Go.Proofs.Qxb6003855a
open Go.RowKit Go.Maps

set_option maxHeartbeats 400000 in
theorem zzlong_any (va vb : Value) (A B : List Int) (w : World) {b1 b2 : Nat} {e1 e2 : TypeId}
    (ha : w.ownsInts b1 e1 .i32 va A) (hb : w.ownsInts b2 e2 .i32 vb B) (hA : A.length ≤ 1048576) (hB : B.length ≤ 1048576) :
    Calls Try.prog 9 #[va, vb] w fun e w' => e = .returned (.tuple #[.int .i64 ((Plain.lto A B A.length).inA.length : Int), .int .i64 ((ooT (Plain.lto A B A.length).inA B (Plain.lto A B A.length).mt B.length / 2 : Nat) : Int)]) ∧ Below w.heap.size w w' := by
  go_enter Try.func9, Try.ntmps9
  go_wp2_with (go_at_call 15; refine (long_any va vb A B _ ha hb hA hB).mono ?_; rintro e w' ⟨rfl, hbe⟩)
  go_ret2
  exact ⟨rfl, hbe⟩

/-- A copy, whatever came in: a slice of the call's own that holds the elements. -/
theorem copy_any (a : Option Addr) (n cap : Nat) (zs : List Int) (w : World) (hmax : n ≤ 1048576)
    (h : (a = none ∧ n = 0 ∧ cap = 0 ∧ zs = []) ∨ ∃ x, a = some x ∧ n ≤ cap ∧ cap ≤ maxLen ∧ zs.length = cap ∧ (∀ i, i < zs.length → w.cell? (x.add i) = some (.int .i32 (zs.getD i 0))) ∧ ∀ z ∈ zs, (Lit.int .i32 z).wf = true) :
    Calls Try.prog 8 #[.slice a n cap] w fun e w' => ∃ v, e = .returned v ∧ w'.ownsInts w.heap.size 21 .i32 v (zs.take n) ∧ Below w.heap.size w w' := by
  rcases h with ⟨rfl, rfl, rfl, rfl⟩ | ⟨x, rfl, hnc, hcm, hl, hc, hwf⟩
  · refine (copy_nil w).mono ?_
    rintro e w' ⟨rfl, rfl⟩
    exact ⟨_, rfl, World.ownsInts_nil _ _ _ _, Below.refl _ _⟩
  · refine (copy_some x n cap zs w (by omega) hmax hc).mono ?_
    rintro e w' ⟨rfl, ho, hb⟩
    refine ⟨_, rfl, ⟨?_, fun z hz => hwf z (List.mem_of_mem_take hz)⟩, hb⟩
    rw [List.length_take, Nat.min_eq_left (by omega)]
    exact ho

set_option maxHeartbeats 400000 in
theorem self_walk (a : Option Addr) (n cap : Nat) (zs : List Int) (w : World)
    (h : (a = none ∧ n = 0 ∧ cap = 0 ∧ zs = []) ∨ ∃ x, a = some x ∧ n ≤ cap ∧ cap ≤ maxLen ∧ zs.length = cap ∧ (∀ i, i < zs.length → w.cell? (x.add i) = some (.int .i32 (zs.getD i 0))) ∧ ∀ z ∈ zs, (Lit.int .i32 z).wf = true) :
    Calls Try.prog 5 #[.slice a n cap] w fun e w' => e = .returned (.bool true) ∧ Below w.heap.size w w' := by
  have hmax : n ≤ 9223372036854775807 := by
    rcases h with ⟨rfl, rfl, rfl, rfl⟩ | ⟨x, rfl, hnc, hcm, _⟩
    · omega
    · unfold maxLen at hcm; omega
  have hnl : (zs.take n).length = n := by
    rcases h with ⟨rfl, rfl, rfl, rfl⟩ | ⟨x, rfl, hnc, hcm, hl, _⟩
    · simp
    · simp; omega
  by_cases h20 : n ≤ 65536
  · have hcopy := copy_any a n cap zs w (by omega) h
    have HL : Hid ((zs.take n).length = n) := hnl
    have HC : Hid (Calls Try.prog 8 #[.slice a n cap] w fun e w' => ∃ v, e = .returned v ∧ w'.ownsInts w.heap.size 21 .i32 v (zs.take n) ∧ Below w.heap.size w w') := hcopy
    clear h hcopy hnl
    generalize zs.take n = A at *
    have hA : A.length ≤ 65536 := by rw [HL.out]; exact h20
    obtain ⟨e1, e2⟩ := Plain.self_answer A
    have e2' : ooT (Plain.lto A A A.length).inA A (Plain.lto A A A.length).mt A.length / 2 = 0 := e2
    have E1 : Hid ((Plain.lto A A A.length).inA.length = A.length) := e1
    have E2 : Hid (ooT (Plain.lto A A A.length).inA A (Plain.lto A A A.length).mt A.length / 2 = 0) := e2'
    clear e1 e2 e2'
    go_enter Try.func5, Try.ntmps5
    go_wp2_with (first | (go_at_call 8; refine Calls.mono HC.out ?_; rintro e w1 ⟨v, rfl, hown, hb1⟩) | (go_at_call 9; refine (zzlong_any v v A A _ hown hown (by omega) (by omega)).mono ?_; rw [E1.out, E2.out]; rintro e w2 ⟨rfl, hb2⟩; have hlv := len_eq (P := Try.prog) hown.1 22 Try.sl22; rw [HL.out] at *) | go_in)
    go_ret
    exact ⟨rfl, hb1.trans (hb2.mono hb1.size)⟩
  · clear h
    by_cases h21 : n ≤ 1048576
    · go_enter Try.func5, Try.ntmps5
      go_wp2
      go_ret
      exact ⟨rfl, Below.refl _ _⟩
    · go_enter Try.func5, Try.ntmps5
      go_wp2
      go_ret
      exact ⟨rfl, Below.refl _ _⟩

end Go.Proofs.Qxb6003855a
