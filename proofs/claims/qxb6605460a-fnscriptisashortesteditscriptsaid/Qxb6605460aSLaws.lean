/-
  The seat b6605460a: slices of strings, read as the strings' numbers.
-/
import Derived.Test.Qxb6605460aSPlain
import Derived.Test.Qxb6605460aLcs
import Derived.WalkSmall
namespace Go.Proofs.Qxb6605460a
open Go.RowKit Go.Maps

theorem add_add (x : Addr) (i j : Nat) : (x.add i).add j = x.add (i + j) := by
  unfold Addr.add
  by_cases hi : i = 0
  · subst hi; simp
  · by_cases hj : j = 0
    · subst hj; simp [hi]
    · simp [hi, hj, Nat.add_assoc]

/-- The address of a slice's k-th element. -/
def adr (v : Value) (k : Nat) : Addr := match v with
  | .slice (some x) _ _ => x.add k
  | _ => ⟨0, 0, none⟩

/-- The slice v of strings reads as the numbers A. -/
def SC (w : World) (v : Value) (A : List Int) : Prop :=
  (v = .slice none 0 0 ∧ A = []) ∨ ∃ x cap, v = .slice (some x) A.length cap ∧ A.length ≤ cap ∧ ∀ i, i < A.length → ∃ s, w.cell? (x.add i) = some (.string s) ∧ code s = nth A i

theorem SC.later {w w' : World} {v : Value} {A : List Int} (h : SC w v A) (hb : Below w.heap.size w w') : SC w' v A := by
  rcases h with h | ⟨x, cap, h1, h2, h5⟩
  · exact Or.inl h
  · refine Or.inr ⟨x, cap, h1, h2, fun i hi => ?_⟩
    obtain ⟨s, hs, hc⟩ := h5 i hi
    exact ⟨s, by rw [hb.cell (block_lt hs)]; exact hs, hc⟩

theorem Try.sl28 : Try.prog.underlying 28 = some (.slice (Try.prog.elem 28)) := by kernel_rfl
theorem Try.ce28 (w : World) : (sizeOf (Try.prog.elem 28)).run Try.prog w = .ok 1 w := by kernel_rfl

section
variable {w : World} {v : Value} {A : List Int}
theorem SC.cell (h : SC w v A) (k : Nat) (hk : k < A.length) : ∃ s, w.cell? (adr v k) = some (.string s) ∧ code s = nth A k := by
  rcases h with ⟨rfl, rfl⟩ | ⟨x, cap, rfl, _, h5⟩
  · simp at hk
  · exact h5 k hk

theorem SC.len (h : SC w v A) : ∀ (ty : TypeId) (w' : World), (Builtin.len_ #[28] ty #[v]).run Try.prog w' = .ok (goInt A.length) w' := by
  intro ty w'
  rcases h with ⟨rfl, rfl⟩ | ⟨x, cap, rfl, _, h5⟩
  · exact run_len_slice (P := Try.prog) (w := w') 28 ty none 0 0 Try.sl28
  · exact run_len_slice (P := Try.prog) (w := w') 28 ty _ _ cap Try.sl28

theorem SC.index (h : SC w v A) (z : Int) (k : Nat) (hz : z = (k : Int)) (hk : k < A.length) : ∀ (w' : World), (Instr.indexAt 28 v (.int .i64 z)).run Try.prog w' = .ok (.pointer (some (adr v k))) w' := by
  intro w'
  subst hz
  rcases h with ⟨rfl, rfl⟩ | ⟨x, cap, rfl, _, h5⟩
  · simp at hk
  · rw [run_indexAt_slice (P := Try.prog) (w := w') 28 _ _ cap .i64 k Try.sl28]
    simp [hk, Try.ce28, adr]

/-- v[lo:hi]. -/
theorem SC.cut (h : SC w v A) (l h' : Int) (lo hi : Nat) (el : l = (lo : Int)) (eh : h' = (hi : Int)) (h1 : lo ≤ hi) (h2 : hi ≤ A.length) :
    ∃ u, (∀ w', (Instr.slice 28 v (some (.int .i64 l)) (some (.int .i64 h')) none).run Try.prog w' = .ok u w') ∧ SC w u ((A.take hi).drop lo) := by
  subst el; subst eh
  rcases h with ⟨rfl, rfl⟩ | ⟨x, cap, rfl, hc, h5⟩
  · obtain rfl : hi = 0 := by simpa using h2
    obtain rfl : lo = 0 := by omega
    refine ⟨.slice none 0 0, fun w' => ?_, Or.inl ⟨rfl, by simp⟩⟩
    rw [run_slice_lh (P := Try.prog) w' 28 none 0 0 Try.sl28 .i64 .i64 _ _ (by simp) (by simp) (by simp), Try.ce28]
    simp [Result.andThen, sliced]
  · refine ⟨.slice (some (if cap = lo then x else x.add lo)) (hi - lo) (cap - lo), fun w' => ?_, Or.inr ⟨_, _, by rw [List.length_drop, List.length_take, Nat.min_eq_left h2], ?_, ?_⟩⟩
    · rw [run_slice_lh (P := Try.prog) w' 28 _ _ cap Try.sl28 .i64 .i64 _ _ (by omega) (by omega) (by omega), Try.ce28]
      simp only [Result.andThen, sliced, Int.toNat_natCast, Nat.mul_one, Option.map_some]
      split <;> rfl
    · simp; omega
    · intro i hi'
      have hi2 : i < hi - lo := by simpa [Nat.min_eq_left h2] using hi'
      obtain ⟨s, hs, hcd⟩ := h5 (lo + i) (by omega)
      refine ⟨s, by rw [if_neg (by omega), add_add]; exact hs, ?_⟩
      rw [hcd]
      simp only [nth, List.getD, List.getElem?_drop, List.getElem?_take]
      rw [if_pos (by omega)]
end

theorem eqs {a b : ByteArray} {x y : Int} (ha : code a = x) (hb : code b = y) (h : x = y) : ∀ t, binOp .eql t (.string a) (.string b) = pure (.bool true) := by
  intro t
  have : a = b := code_inj (by rw [ha, hb, h])
  subst this
  rw [binOp_string_eql]; simp
theorem neqs {a b : ByteArray} {x y : Int} (ha : code a = x) (hb : code b = y) (h : ¬ x = y) : ∀ t, binOp .eql t (.string a) (.string b) = pure (.bool false) := by
  intro t
  have hne : ¬ a = b := fun e => h (by rw [← ha, ← hb, e])
  rw [binOp_string_eql]
  have h2 : (a.toList == b.toList) = false := by
    rw [beq_eq_false_iff_ne]
    intro e
    apply hne
    rw [ByteArray.toList_eq, ByteArray.toList_eq] at e
    cases a with
    | mk p => cases b with
      | mk q => congr 1; exact Array.toList_inj.1 e
  rw [h2]
theorem eqs' {a b : ByteArray} {x y : Int} (ha : code a = x) (hb : code b = y) (h : x = y) : ∀ t, binOp .neq t (.string a) (.string b) = pure (.bool false) := by
  intro t
  have : a = b := code_inj (by rw [ha, hb, h])
  subst this
  rw [binOp_string_neq]; simp

end Go.Proofs.Qxb6605460a
