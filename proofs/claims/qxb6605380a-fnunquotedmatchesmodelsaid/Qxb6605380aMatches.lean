/-
  The seat b6605380a: FnUnquotedMatchesModel (F5): the walk.
-/
import Derived.Test.Qxb6605380aModel
namespace Go.Proofs.Qxb6605380a
open Go.RowKit Go.Maps

set_option maxHeartbeats 800000 in
theorem matches_walk (s : ByteArray) (m0 : s.size ≤ maxLen) (w : World) :
    Calls Try.prog 5 #[.string s] w fun e w' => e = .returned (.bool true) ∧ Below w.heap.size w w' := by
  unfold maxLen at m0
  by_cases hs : s.size ≤ 1048576
  · by_cases h0 : 0 < s.size
    · have HU : Hid (∀ w1 : World, Calls Try.prog 13 #[.string s] w1 fun e w' => e = .returned (.tuple #[.string (strOfNums (Plain.unq 0 false [] (bytes s)).1), .bool (Plain.unq 0 false [] (bytes s)).2]) ∧ Below w1.heap.size w1 w') := fun w1 => zzunq_some s w1 hs h0
      have HM : Hid (∀ w1 : World, Calls Try.prog 14 #[.string s] w1 fun e w' => e = .returned (.tuple #[.string (strOfNums (Plain.unq 0 false [] (bytes s)).1), .bool (Plain.unq 0 false [] (bytes s)).2]) ∧ Below w1.heap.size w1 w') := fun w1 => model_some s w1 hs h0
      generalize strOfNums (Plain.unq 0 false [] (bytes s)).1 = R1 at HU HM
      generalize (Plain.unq 0 false [] (bytes s)).2 = R2 at HU HM
      have hq : binOp .eql 9 (.string R1) (.string R1) = pure (.bool true) := eql_eq rfl
      go_enter Try.func5, Try.ntmps5
      go_wp2_with (first | (go_at_call 13; refine Calls.mono (HU.out _) ?_; rintro e w1 ⟨rfl, hb1⟩) | (go_at_call 14; refine Calls.mono (HM.out _) ?_; rintro e w2 ⟨rfl, hb2⟩) | go_in)
      go_ret
      exact ⟨rfl, hb1.trans (hb2.mono hb1.size)⟩
    · have he : s = ⟨#[]⟩ := by
        have h2 : s.data.size = 0 := by have : s.size = s.data.size := rfl; omega
        cases s with
        | mk d => have : d = #[] := Array.eq_empty_of_size_eq_zero h2; rw [this]
      subst he
      clear m0 hs h0
      go_enter Try.func5, Try.ntmps5
      go_wp2_with (first | (go_at_call 13; refine (zzunq_empty _).mono ?_; rintro e w1 ⟨rfl, rfl⟩) | (go_at_call 14; refine (model_empty _).mono ?_; rintro e w2 ⟨rfl, rfl⟩) | go_in)
      go_ret
      exact ⟨rfl, Below.refl _ _⟩
  · go_enter Try.func5, Try.ntmps5
    go_wp2
    go_ret
    exact ⟨rfl, Below.refl _ _⟩

end Go.Proofs.Qxb6605380a
