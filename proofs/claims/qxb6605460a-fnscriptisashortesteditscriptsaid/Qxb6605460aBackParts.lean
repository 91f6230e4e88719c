/-
  The seat b6605460a: backtrack: the lemmas outside the walk.
-/
import Derived.Test.Qxb6605460aLcs
namespace Go.Proofs.Qxb6605460a
open Go.RowKit Go.Maps

section
variable {E : Nat → Nat → Bool} {n m : Nat}

theorem FR_unique {d k : Int} {i i' : Nat} (h : Plain.FR E d k i) (h' : Plain.FR E d k i') : i = i' := by
  have h1 := Plain.FR_max E h h'.1 h'.2.1
  have h2 := Plain.FR_max E h' h.1 h.2.1
  omega

theorem slide_exists (hE : ∀ i j, E i j = true → i < n ∧ j < m) (k : Int) : ∀ (a f : Nat), n ≤ f + a → ∃ i, f ≤ i ∧ (∀ t, f ≤ t → t < i → E t (Plain.col k t) = true) ∧ E i (Plain.col k i) = false
  | 0, f, h => ⟨f, Nat.le_refl _, fun t h1 h2 => by omega, by
      cases he : E f (Plain.col k f) with
      | false => rfl
      | true => have := (hE _ _ he).1; omega⟩
  | a + 1, f, h => by
    cases he : E f (Plain.col k f) with
    | false => exact ⟨f, Nat.le_refl _, fun t h1 h2 => by omega, he⟩
    | true =>
      obtain ⟨i, h1, h2, h3⟩ := slide_exists hE k a (f + 1) (by omega)
      refine ⟨i, by omega, fun t ht1 ht2 => ?_, h3⟩
      by_cases e : t = f
      · subst e; exact he
      · exact h2 t (by omega) ht2

/-- From where the furthest point was reached. -/
theorem slide_back (hE : ∀ i j, E i j = true → i < n ∧ j < m) {d k : Int} {xm xp i : Nat} (hd : 1 ≤ d) (hk1 : -d ≤ k) (hk2 : k ≤ d) (hm : k ≠ -d → Plain.FR E (d - 1) (k - 1) xm) (hp : k ≠ d → Plain.FR E (d - 1) (k + 1) xp) (h : Plain.FR E d k i) :
    Plain.fromI d k xm xp ≤ i ∧ ∀ t, Plain.fromI d k xm xp ≤ t → t < i → E t (Plain.col k t) = true := by
  obtain ⟨i', h1, h2, h3⟩ := slide_exists hE k n (Plain.fromI d k xm xp) (by omega)
  have h4 := Plain.reach_step E hd hk1 hk2 hm hp h1 h2 h3
  obtain rfl := FR_unique h h4
  exact ⟨h1, h2⟩

theorem slide_zero (hE : ∀ i j, E i j = true → i < n ∧ j < m) {i : Nat} (h : Plain.FR E 0 0 i) : ∀ t, t < i → E t t = true := by
  obtain ⟨i', h1, h2, h3⟩ := slide_exists hE 0 n 0 (by omega)
  have h4 := Plain.reach_zero E (fun t ht => h2 t (Nat.zero_le _) ht) h3
  obtain rfl := FR_unique h h4
  intro t ht
  have := h2 t (Nat.zero_le _) ht
  have e : Plain.col 0 t = t := by unfold Plain.col; omega
  rwa [e] at this

/-- What each row of the trace holds. -/
def RowsOK (E : Nat → Nat → Bool) (rows : List (List Int)) : Prop :=
  ∀ t, t < rows.length → (rows.getD t []).length = t + 1 ∧ ∀ s, s ≤ t → ∃ i : Nat, nth (rows.getD t []) s = (i : Int) ∧ Plain.FR E t (-(t : Int) + 2 * s) i

/-- The trace in memory. -/
def TR (w : World) (base : Nat) (v : Value) (rows : List (List Int)) : Prop :=
  ∃ vs : List Value, w.ownsRow base 22 1 v rows.length vs ∧ ∀ t, t < rows.length → ∃ x, vs[t]? = some x ∧ w.ownsInts base 3 .i64 x (rows.getD t [])

theorem TR.later {w w' : World} {base : Nat} {v : Value} {rows : List (List Int)} (h : TR w base v rows) (hb : Below w.heap.size w w') : TR w' base v rows := by
  obtain ⟨vs, h1, h2⟩ := h
  refine ⟨vs, ownsRow_later h1 hb, fun t ht => ?_⟩
  obtain ⟨x, hx, ho⟩ := h2 t ht
  exact ⟨x, hx, ownsInts_later ho hb⟩

theorem TR.at {w : World} {base : Nat} {v : Value} {rows : List (List Int)} (h : TR w base v rows) {t : Nat} (ht : t < rows.length) : ∃ x, w.cell? ⟨blk v, t, none⟩ = some x ∧ w.ownsInts base 3 .i64 x (rows.getD t []) := by
  obtain ⟨vs, h1, h2⟩ := h
  obtain ⟨x, hx, ho⟩ := h2 t ht
  exact ⟨x, by rw [cell_eq h1 t ht, hx], ho⟩
end

/-- What has been turned round after k rounds. -/
def revTo (rev : List Int) (k : Nat) : List Int := List.replicate (rev.length - k) 0 ++ (rev.take k).reverse

theorem revTo_len {rev : List Int} {k : Nat} (h : k ≤ rev.length) : (revTo rev k).length = rev.length := by simp [revTo]; omega
theorem revTo_zero (rev : List Int) : revTo rev 0 = List.replicate rev.length 0 := by simp [revTo]
theorem revTo_end (rev : List Int) : revTo rev rev.length = rev.reverse := by simp [revTo]
theorem revTo_step {rev : List Int} {k : Nat} (h : k < rev.length) : (revTo rev k).set (rev.length - 1 - k) (nth rev k) = revTo rev (k + 1) := by
  unfold revTo
  have e : rev.length - k = (rev.length - (k + 1)) + 1 := by omega
  rw [e, List.replicate_succ', List.append_assoc, List.set_append_right _ _ (by simp; omega), List.length_replicate]
  have e2 : rev.length - 1 - k - (rev.length - (k + 1)) = 0 := by omega
  rw [e2]
  have e3 : rev.take (k + 1) = rev.take k ++ [nth rev k] := by rw [List.take_succ_eq_append_getElem h, nth_eq h]
  rw [e3, List.reverse_append]
  simp

theorem path_rev_same {E : Nat → Nat → Bool} {n m i j c : Nat} {rev : List Int} (hi : i < n) (hj : j < m) (h : E i j = true) (hp : Plain.Path E n m rev.reverse (i + 1) (j + 1) c) : Plain.Path E n m (rev ++ [0]).reverse i j c := by
  rw [List.reverse_append]; exact Plain.path_same hi hj h hp
theorem path_rev_del {E : Nat → Nat → Bool} {n m i j c : Nat} {rev : List Int} (hi : i < n) (hp : Plain.Path E n m rev.reverse (i + 1) j c) : Plain.Path E n m (rev ++ [1]).reverse i j (c + 1) := by
  rw [List.reverse_append]; exact Plain.path_del hi hp
theorem path_rev_ins {E : Nat → Nat → Bool} {n m i j c : Nat} {rev : List Int} (hj : j < m) (hp : Plain.Path E n m rev.reverse i (j + 1) c) : Plain.Path E n m (rev ++ [2]).reverse i j (c + 1) := by
  rw [List.reverse_append]; exact Plain.path_ins hj hp

set_option maxHeartbeats 400000 in
theorem clos22 (pb db : Nat) (x : Value) (row : List Int) (d s : Nat) (k : Int) (w : World) {b1 : Nat} {e1 : TypeId} (hx : w.ownsInts b1 e1 .i64 x row) (hp : w.cell? ⟨pb, 0, none⟩ = some x) (hd : w.cell? ⟨db, 0, none⟩ = some (.int .i64 d))
    (hk : k + d - 1 = 2 * (s : Int)) (hs : s < row.length) (hdm : d ≤ 4096) (hk1 : -4096 ≤ k) (hk2 : k ≤ 4096) :
    Calls Try.prog 22 #[.int .i64 k, .pointer (some ⟨pb, 0, none⟩), .pointer (some ⟨db, 0, none⟩)] w fun e w' => e = .returned (.int .i64 (nth row s)) ∧ w = w' := by
  have hix := index_at hx.1 22 Try.sl22 Try.ce22 ((k + d - 1) / 2) s (by omega) hs
  have hc := cell_int hx s hs
  have hk0 : 0 ≤ k + (d : Int) - 1 := by omega
  clear hk
  go_enter Try.func22, Try.ntmps22
  go_wp2
  go_ret
  exact ⟨rfl, rfl⟩

end Go.Proofs.Qxb6605460a
