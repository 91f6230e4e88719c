/-
  The seat b6605460a: shortest: the lemmas outside the walk.
-/
import Derived.Test.Qxb6605460aBack
namespace Go.Proofs.Qxb6605460a
open Go.RowKit Go.Maps

/-- Where diagonal k lies in x. -/
def ix (lim : Nat) (k : Int) : Nat := ((lim : Int) + 1 + k).toNat

def FRv (E : Nat → Nat → Bool) (lim : Nat) (d k : Int) (X : List Int) : Prop := ∃ i : Nat, nth X (ix lim k) = (i : Int) ∧ Plain.FR E d k i
def FRN (E : Nat → Nat → Bool) (n m lim : Nat) (d k : Int) (X : List Int) : Prop := ∃ i : Nat, nth X (ix lim k) = (i : Int) ∧ Plain.FR E d k i ∧ ¬ (n ≤ i ∧ (m : Int) ≤ (i : Int) - k)

/-- What x holds at the head of round d. -/
def XI (E : Nat → Nat → Bool) (lim d : Nat) (X : List Int) : Prop :=
  (∀ k : Int, -((d : Int) - 1) ≤ k → k ≤ (d : Int) - 1 → ((d : Int) - 1 - k) % 2 = 0 → FRv E lim ((d : Int) - 1) k X) ∧ (d = 0 → nth X (lim + 2) = 0)
/-- .. and behind s diagonals of the round. -/
def XJ (E : Nat → Nat → Bool) (n m lim d s : Nat) (X : List Int) : Prop :=
  XI E lim d X ∧ ∀ k : Int, -(d : Int) ≤ k → k < 2 * (s : Int) - d → ((d : Int) - k) % 2 = 0 → FRN E n m lim d k X

section
variable {E : Nat → Nat → Bool} {n m lim d s : Nat} {X : List Int}

theorem XI_zero (N : Nat) : XI E lim 0 (List.replicate N 0) := ⟨fun k h1 h2 _ => by omega, fun _ => nth_replicate _ _⟩

theorem XJ_start (h : XI E lim d X) : XJ E n m lim d 0 X := ⟨h, fun k h1 h2 _ => by omega⟩

theorem ix_ne {k k' : Int} (h : k ≠ k') (h1 : -(lim : Int) - 1 ≤ k) (h2 : -(lim : Int) - 1 ≤ k') : ix lim k ≠ ix lim k' := by unfold ix; omega

theorem XJ_store (h : XJ E n m lim d s X) (hd : d ≤ lim) (hX : X.length = 2 * lim + 3) {k : Int} {i : Nat} (hk : k = 2 * (s : Int) - d) (hs : s ≤ d) (hf : Plain.FR E d k i) (hn : ¬ (n ≤ i ∧ (m : Int) ≤ (i : Int) - k)) :
    XJ E n m lim d (s + 1) (X.set (ix lim k) (i : Int)) := by
  refine ⟨⟨fun k' h1 h2 h3 => ?_, fun h0 => ?_⟩, fun k' h1 h2 h3 => ?_⟩
  · obtain ⟨i', g1, g2⟩ := h.1.1 k' h1 h2 h3
    exact ⟨i', by rw [nth_set_ne _ (ix_ne (by omega) (by omega) (by omega))]; exact g1, g2⟩
  · rw [nth_set_ne _ (by unfold ix; omega)]; exact h.1.2 h0
  · by_cases e : k' = k
    · subst e
      exact ⟨i, nth_set_eq _ (by unfold ix; omega), hf, hn⟩
    · obtain ⟨i', g1, g2⟩ := h.2 k' h1 (by omega) h3
      exact ⟨i', by rw [nth_set_ne _ (ix_ne (fun e' => e e'.symm) (by omega) (by omega))]; exact g1, g2⟩

theorem XJ_end (h : XJ E n m lim d (d + 1) X) (hle : (d : Int) ≤ Plain.D E n m) : XI E lim (d + 1) X ∧ ((d + 1 : Nat) : Int) ≤ Plain.D E n m := by
  refine ⟨⟨fun k h1 h2 h3 => ?_, fun h0 => by omega⟩, ?_⟩
  · obtain ⟨i, g1, g2, _⟩ := h.2 k (by omega) (by omega) (by omega)
    have e : ((d + 1 : Nat) : Int) - 1 = (d : Int) := by omega
    rw [e]
    exact ⟨i, g1, g2⟩
  · have hp := Plain.D_parity E n m
    have hg := Plain.D_ge E n m
    have : Plain.D E n m ≠ d := by
      intro e
      obtain ⟨i, _, g2, g3⟩ := h.2 ((n : Int) - m) (by omega) (by omega) (by rw [← e]; omega)
      exact Plain.not_done E g2 g3 e
    omega

/-- From f on the slide gives the furthest point. -/
def RF (E : Nat → Nat → Bool) (d k : Int) (f : Nat) : Prop := ∀ i, f ≤ i → (∀ t, f ≤ t → t < i → E t (Plain.col k t) = true) → E i (Plain.col k i) = false → Plain.FR E d k i

theorem start_a (hE : ∀ i j, E i j = true → i < n ∧ j < m) (h : XI E lim d X) (hd : d ≤ lim) {k : Int} (hk : k = -(d : Int)) : ∃ xp : Nat, nth X (ix lim (k + 1)) = (xp : Int) ∧ k ≤ xp ∧ (xp : Int) ≤ n + d ∧ RF E d k xp := by
  by_cases h0 : d = 0
  · subst h0
    have hk0 : k = 0 := by omega
    subst hk0
    refine ⟨0, ?_, by omega, by omega, fun i _ hs he => Plain.reach_zero E (fun t ht => hs t (Nat.zero_le _) ht) he⟩
    have e : ix lim (0 + 1) = lim + 2 := by unfold ix; omega
    rw [e, h.2 rfl]; rfl
  · obtain ⟨xp, g1, g2⟩ := h.1 (k + 1) (by omega) (by omega) (by omega)
    have hb := Plain.FR_le E (fun i j h => (hE i j h).1) g2
    refine ⟨xp, g1, by have := g2.1; omega, by omega, fun i h1 h2 h3 => ?_⟩
    have hf : Plain.fromI (d : Int) k 0 xp = xp := by unfold Plain.fromI; rw [if_pos (Or.inl hk)]
    exact Plain.reach_step E (xm := 0) (xp := xp) (by omega) (by omega) (by omega) (fun h => absurd hk h) (fun _ => g2) (by rw [hf]; exact h1) (by rw [hf]; exact h2) h3

theorem start_b (hE : ∀ i j, E i j = true → i < n ∧ j < m) (h : XI E lim d X) {k : Int} (hk : k = (d : Int)) (h0 : 0 < d) : ∃ xm : Nat, nth X (ix lim (k - 1)) = (xm : Int) ∧ k ≤ (xm : Int) + 1 ∧ (xm : Int) ≤ n + d ∧ RF E d k (xm + 1) := by
  obtain ⟨xm, g1, g2⟩ := h.1 (k - 1) (by omega) (by omega) (by omega)
  have hb := Plain.FR_le E (fun i j h => (hE i j h).1) g2
  refine ⟨xm, g1, by have := g2.1; omega, by omega, fun i h1 h2 h3 => ?_⟩
  have hf : Plain.fromI (d : Int) k xm 0 = xm + 1 := by
    unfold Plain.fromI
    rw [if_neg (by intro h; rcases h with h | h; omega; exact h.1 hk)]
  exact Plain.reach_step E (xm := xm) (xp := 0) (by omega) (by omega) (by omega) (fun _ => g2) (fun h => absurd hk h) (by rw [hf]; exact h1) (by rw [hf]; exact h2) h3

theorem start_c (hE : ∀ i j, E i j = true → i < n ∧ j < m) (h : XI E lim d X) {k : Int} (hk1 : -(d : Int) < k) (hk2 : k < d) (hp : ((d : Int) - k) % 2 = 0) : ∃ xm xp : Nat, nth X (ix lim (k - 1)) = (xm : Int) ∧ nth X (ix lim (k + 1)) = (xp : Int) ∧
    k ≤ (xm : Int) + 1 ∧ k ≤ (xp : Int) ∧ (xm : Int) ≤ n + d ∧ (xp : Int) ≤ n + d ∧ (xm < xp → RF E d k xp) ∧ (¬ xm < xp → RF E d k (xm + 1)) := by
  obtain ⟨xm, g1, g2⟩ := h.1 (k - 1) (by omega) (by omega) (by omega)
  obtain ⟨xp, g3, g4⟩ := h.1 (k + 1) (by omega) (by omega) (by omega)
  have hb := Plain.FR_le E (fun i j h => (hE i j h).1) g2
  have hb2 := Plain.FR_le E (fun i j h => (hE i j h).1) g4
  refine ⟨xm, xp, g1, g3, by have := g2.1; omega, by have := g4.1; omega, by omega, by omega, fun hx i h1 h2 h3 => ?_, fun hx i h1 h2 h3 => ?_⟩
  · have hf : Plain.fromI (d : Int) k xm xp = xp := by unfold Plain.fromI; rw [if_pos (Or.inr ⟨by omega, hx⟩)]
    exact Plain.reach_step E (xm := xm) (xp := xp) (by omega) (by omega) (by omega) (fun _ => g2) (fun _ => g4) (by rw [hf]; exact h1) (by rw [hf]; exact h2) h3
  · have hf : Plain.fromI (d : Int) k xm xp = xm + 1 := by
      unfold Plain.fromI
      rw [if_neg (by intro h; rcases h with h | h; omega; exact hx h.2)]
    exact Plain.reach_step E (xm := xm) (xp := xp) (by omega) (by omega) (by omega) (fun _ => g2) (fun _ => g4) (by rw [hf]; exact h1) (by rw [hf]; exact h2) h3

/-- The row of the trace after s of its elements. -/
def rowTo (lim d : Nat) (X : List Int) (s : Nat) : List Int := (List.range s).map (fun (t : Nat) => nth X (ix lim (2 * (t : Int) - d)))
theorem rowTo_len (s : Nat) : (rowTo lim d X s).length = s := by simp [rowTo]
theorem rowTo_succ (s : Nat) : rowTo lim d X (s + 1) = rowTo lim d X s ++ [nth X (ix lim (2 * (s : Int) - d))] := by simp [rowTo, List.range_succ]
theorem rowTo_at {s t : Nat} (h : t < s) : nth (rowTo lim d X s) t = nth X (ix lim (2 * (t : Int) - d)) := by
  rw [nth_eq (by rw [rowTo_len]; exact h)]
  simp [rowTo]

theorem RowsOK_snoc {rows : List (List Int)} (h : RowsOK E rows) (hX : XI E lim (rows.length + 1) X) : RowsOK E (rows ++ [rowTo lim rows.length X (rows.length + 1)]) := by
  intro t ht
  by_cases e : t < rows.length
  · have : (rows ++ [rowTo lim rows.length X (rows.length + 1)]).getD t [] = rows.getD t [] := by
      simp [List.getD, List.getElem?_append_left e]
    rw [this]
    exact h t e
  · have e2 : t = rows.length := by simp at ht; omega
    subst e2
    have : (rows ++ [rowTo lim rows.length X (rows.length + 1)]).getD rows.length [] = rowTo lim rows.length X (rows.length + 1) := by
      simp [List.getD]
    rw [this]
    refine ⟨rowTo_len _, fun s hs => ?_⟩
    obtain ⟨i, g1, g2⟩ := hX.1 (2 * (s : Int) - rows.length) (by omega) (by omega) (by omega)
    have e3 : ((rows.length + 1 : Nat) : Int) - 1 = (rows.length : Int) := by omega
    rw [e3] at g2
    refine ⟨i, by rw [rowTo_at (by omega)]; exact g1, ?_⟩
    have e4 : -(rows.length : Int) + 2 * (s : Int) = 2 * (s : Int) - rows.length := by omega
    rw [e4]; exact g2
end

/-- The trace, while a block below it is written. -/
theorem TR.kept {w w' : World} {base g : Nat} {v : Value} {rows : List (List Int)} (h : TR w base v rows) (hg : w.grownBy w' (some g)) (hb : g < base) : TR w' base v rows := by
  obtain ⟨vs, h1, h2⟩ := h
  have hne : ∀ {u : Value} {n : Nat} {xs : List Value} {e : TypeId}, w.ownsRow base e 1 u n xs → u.ownBlock = none ∨ u.ownBlock ≠ some g := by
    intro u n xs e ho
    cases hu : u.ownBlock with
    | none => exact Or.inl rfl
    | some b => have := (ho.lt b hu).1; exact Or.inr (by simp; omega)
  refine ⟨vs, h1.kept hg (hne h1), fun t ht => ?_⟩
  obtain ⟨x, hx, ho⟩ := h2 t ht
  exact ⟨x, hx, ho.kept hg (hne ho.1)⟩

theorem TR.drewN {w : World} {base : Nat} {v : Value} {rows : List (List Int)} (h : TR w base v rows) (n : Nat) : TR (w.drewN n) base v rows := h

/-- The trace behind 'append(trace, row)'. -/
theorem TR.snoc {w w1 : World} {base : Nat} {v v' x : Value} {rows : List (List Int)} {row : List Int} {vs : List Value} {o : Obj} (h1 : w.ownsRow base 22 1 v rows.length vs) (h2 : ∀ t, t < rows.length → ∃ x, vs[t]? = some x ∧ w.ownsInts base 3 .i64 x (rows.getD t []))
    (hx : w.ownsInts base 3 .i64 x row) (hown : w1.ownsRow base 22 1 v' (rows.length + 1) (vs ++ [x])) (hg : (w.alloc o).grownBy w1 v.ownBlock) : TR w1 base v' (rows ++ [row]) := by
  have hl : vs.length = rows.length := by have := h1.1; omega
  have hall := (World.grownBy_alloc w o _).trans hg
  have hk : ∀ {u : Value} {r : List Int}, w.ownsInts base 3 .i64 u r → w1.ownsInts base 3 .i64 u r := fun ho => ho.kept hall (tags_apart ho.1 h1 (by decide))
  refine ⟨vs ++ [x], by simpa using hown, fun t ht => ?_⟩
  by_cases e : t < rows.length
  · obtain ⟨y, hy, ho⟩ := h2 t e
    refine ⟨y, by rw [List.getElem?_append_left (by omega)]; exact hy, ?_⟩
    have : (rows ++ [row]).getD t [] = rows.getD t [] := by simp [List.getD, List.getElem?_append_left e]
    rw [this]; exact hk ho
  · have e2 : t = rows.length := by simp at ht; omega
    subst e2
    refine ⟨x, by rw [← hl]; simp, ?_⟩
    have : (rows ++ [row]).getD rows.length [] = row := by simp [List.getD]
    rw [this]; exact hk hx

theorem lim_eq (n m : Nat) : ∃ lim : Nat, imin ((n : Int) + m) 1000 = (lim : Int) ∧ lim ≤ 1000 ∧ lim ≤ n + m ∧ (lim = 1000 ∨ lim = n + m) := by
  unfold imin
  split
  · exact ⟨1000, rfl, by omega, by omega, Or.inl rfl⟩
  · exact ⟨n + m, by omega, by omega, by omega, Or.inr rfl⟩

/-- Behind the store 'x[off+k] = i'. -/
theorem store_x {w wi : World} {N k t : Nat} {X : List Int} {v : Value} {rows : List (List Int)} (hX : wi.ownsInts w.heap.size 3 .i64 (.slice (some ⟨w.heap.size, 0, none⟩) N N) X) (hk : k < X.length) (ht : t ≤ 8192) (htr : TR wi (w.heap.size + 1) v rows) (hnx : Below w.heap.size w wi) (hws : w.heap.size + 1 ≤ wi.heap.size) (q : Nat) :
    ((wi.drewN q).setCell ⟨blk (.slice (some ⟨w.heap.size, 0, none⟩) N N), k, none⟩ (.int .i64 (t : Int))).ownsInts w.heap.size 3 .i64 (.slice (some ⟨w.heap.size, 0, none⟩) N N) (X.set k (t : Int)) ∧
    TR ((wi.drewN q).setCell ⟨blk (.slice (some ⟨w.heap.size, 0, none⟩) N N), k, none⟩ (.int .i64 (t : Int))) (w.heap.size + 1) v rows ∧
    Below w.heap.size w ((wi.drewN q).setCell ⟨blk (.slice (some ⟨w.heap.size, 0, none⟩) N N), k, none⟩ (.int .i64 (t : Int))) ∧
    w.heap.size + 1 ≤ ((wi.drewN q).setCell ⟨blk (.slice (some ⟨w.heap.size, 0, none⟩) N N), k, none⟩ (.int .i64 (t : Int))).heap.size := by
  have hX' : (wi.drewN q).ownsInts w.heap.size 3 .i64 (.slice (some ⟨w.heap.size, 0, none⟩) N N) X := hX
  obtain ⟨g1, g2⟩ := stored_int hX' k hk (t : Int) (WalkArith.wf_i64 (by omega))
  have htr' : TR (wi.drewN q) (w.heap.size + 1) v rows := htr
  have hnx' : Below w.heap.size w (wi.drewN q) := hnx.trans ⟨rfl, rfl, rfl, Nat.le_refl _, fun _ _ => rfl⟩
  exact ⟨g1, htr'.kept g2 (Nat.lt_succ_self _), hnx'.grown g2 hnx'.size (fun k hk => by cases hk; exact Nat.le_refl _), Nat.le_trans hws g2.size⟩

theorem ownsInts_base {w : World} {b b' : Nat} {e : TypeId} {q : IntKind} {v : Value} {zs : List Int} (h : w.ownsInts b' e q v zs) (hb : b ≤ b') : w.ownsInts b e q v zs := by
  obtain ⟨⟨h1, h2⟩, h3⟩ := h
  refine ⟨⟨h1, ?_⟩, h3⟩
  rcases h2 with h2 | ⟨g, cap, cur, r1, r2, r3⟩
  · exact Or.inl h2
  · exact Or.inr ⟨g, cap, cur, r1, Nat.le_trans hb r2, r3⟩

/-- What 'shortest' hands back. -/
def Short (E : Nat → Nat → Bool) (n m : Nat) (dist : Int) (ops : List Int) : Prop := (dist ≤ 1000 → Plain.Path E n m ops 0 0 dist.toNat) ∧ (1000 < dist → ops = whole n m)

end Go.Proofs.Qxb6605460a
