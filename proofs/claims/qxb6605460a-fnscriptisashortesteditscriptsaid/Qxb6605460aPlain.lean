/-
  The seat b6605460a: plain mathematics of the greedy search along the diagonals: no Go in sight.
  E i j: may line i of the one text be matched with line j of the other? (false outside both texts)
-/
namespace Go.Proofs.Qxb6605460a.Plain

/-! ### the table of longest common subsequences, row by row -/
def nextRow (e : Nat → Bool) (prev : Nat → Nat) : Nat → Nat
  | 0 => 0
  | j + 1 => if e j then prev j + 1 else if nextRow e prev j ≤ prev (j + 1) then prev (j + 1) else nextRow e prev j

def Lc (E : Nat → Nat → Bool) : Nat → Nat → Nat
  | 0 => fun _ => 0
  | i + 1 => nextRow (E i) (Lc E i)

section
variable (E : Nat → Nat → Bool)

theorem Lc_zero (j : Nat) : Lc E 0 j = 0 := rfl
theorem Lc_left (i : Nat) : Lc E i 0 = 0 := by cases i <;> rfl
theorem Lc_hit {i j : Nat} (h : E i j = true) : Lc E (i + 1) (j + 1) = Lc E i j + 1 := by
  show nextRow (E i) (Lc E i) (j + 1) = _
  unfold nextRow
  rw [if_pos h]
theorem Lc_miss {i j : Nat} (h : E i j = false) : Lc E (i + 1) (j + 1) = max (Lc E i (j + 1)) (Lc E (i + 1) j) := by
  show nextRow (E i) (Lc E i) (j + 1) = max _ (nextRow (E i) (Lc E i) j)
  conv => lhs; unfold nextRow
  rw [if_neg (by rw [h]; simp)]
  split <;> omega

theorem Lc_steps : ∀ i j, (Lc E i j ≤ Lc E i (j + 1) ∧ Lc E i (j + 1) ≤ Lc E i j + 1) ∧ (Lc E i j ≤ Lc E (i + 1) j ∧ Lc E (i + 1) j ≤ Lc E i j + 1) := by
  have key : ∀ i, (∀ j, Lc E i j ≤ Lc E i (j + 1) ∧ Lc E i (j + 1) ≤ Lc E i j + 1) → ∀ j, (Lc E i j ≤ Lc E (i + 1) j ∧ Lc E (i + 1) j ≤ Lc E i j + 1) ∧ (Lc E (i + 1) j ≤ Lc E (i + 1) (j + 1) ∧ Lc E (i + 1) (j + 1) ≤ Lc E (i + 1) j + 1) := by
    intro i hB j
    induction j with
    | zero =>
      have h1 := hB 0
      have h2 := Lc_left E i
      have h3 := Lc_left E (i + 1)
      cases h : E i 0 with
      | true => have h4 := Lc_hit E h; simp only [Nat.zero_add] at *; omega
      | false => have h4 := Lc_miss E h; simp only [Nat.zero_add] at *; omega
    | succ j ih =>
      have h1 := hB j
      have h2 := hB (j + 1)
      have hA : Lc E i (j + 1) ≤ Lc E (i + 1) (j + 1) ∧ Lc E (i + 1) (j + 1) ≤ Lc E i (j + 1) + 1 := by
        cases h : E i j with
        | true => have h4 := Lc_hit E h; omega
        | false => have h4 := Lc_miss E h; omega
      refine ⟨hA, ?_⟩
      cases h : E i (j + 1) with
      | true => have h4 := Lc_hit E h; omega
      | false => have h4 := Lc_miss E h; omega
  intro i
  have hB : ∀ i, ∀ j, Lc E i j ≤ Lc E i (j + 1) ∧ Lc E i (j + 1) ≤ Lc E i j + 1 := by
    intro i
    induction i with
    | zero => intro j; simp [Lc_zero]
    | succ i ih => intro j; exact (key i ih j).2
  intro j
  exact ⟨hB i j, (key i (hB i) j).1⟩

theorem Lc_le (i j : Nat) : Lc E i j ≤ i ∧ Lc E i j ≤ j := by
  constructor
  · induction i with
    | zero => simp [Lc_zero]
    | succ i ih => have := (Lc_steps E i j).2; omega
  · induction j with
    | zero => simp [Lc_left]
    | succ j ih => have := (Lc_steps E i j).1; omega

/-! ### the distance on the unbounded grid -/
def D (i j : Nat) : Int := (i : Int) + j - 2 * (Lc E i j : Int)

theorem D_zero : D E 0 0 = 0 := by simp [D, Lc_zero]
theorem D_ge (i j : Nat) : (i : Int) - j ≤ D E i j ∧ (j : Int) - i ≤ D E i j ∧ 0 ≤ D E i j ∧ D E i j ≤ (i : Int) + j := by
  have := Lc_le E i j
  unfold D; omega
theorem D_right (i j : Nat) : D E i (j + 1) ≤ D E i j + 1 ∧ D E i j - 1 ≤ D E i (j + 1) := by
  have := (Lc_steps E i j).1
  unfold D; omega
theorem D_down (i j : Nat) : D E (i + 1) j ≤ D E i j + 1 ∧ D E i j - 1 ≤ D E (i + 1) j := by
  have := (Lc_steps E i j).2
  unfold D; omega
theorem D_hit {i j : Nat} (h : E i j = true) : D E (i + 1) (j + 1) = D E i j := by
  have := Lc_hit E h
  unfold D; omega
theorem D_miss {i j : Nat} (h : E i j = false) : D E (i + 1) (j + 1) = min (D E i (j + 1)) (D E (i + 1) j) + 1 := by
  have := Lc_miss E h
  unfold D; omega
theorem D_diag (i j : Nat) : D E i j ≤ D E (i + 1) (j + 1) := by
  cases h : E i j with
  | true => rw [D_hit E h]; omega
  | false =>
    rw [D_miss E h]
    have h1 := D_right E i j
    have h2 := D_down E i j
    omega
theorem D_parity (i j : Nat) : (D E i j - ((i : Int) - j)) % 2 = 0 := by unfold D; omega

/-! ### beyond the texts -/
theorem Lc_beyond_row {n : Nat} (hE : ∀ i j, E i j = true → i < n) {i : Nat} (h : n ≤ i) : ∀ j, Lc E (i + 1) j = Lc E i j
  | 0 => by rw [Lc_left, Lc_left]
  | j + 1 => by
    have hf : E i j = false := by
      cases he : E i j with
      | false => rfl
      | true => have := hE i j he; omega
    rw [Lc_miss E hf, Lc_beyond_row hE h j]
    have := (Lc_steps E i j).1
    omega
theorem Lc_beyond_col {m : Nat} (hE : ∀ i j, E i j = true → j < m) {j : Nat} (h : m ≤ j) : ∀ i, Lc E i (j + 1) = Lc E i j
  | 0 => by rw [Lc_zero, Lc_zero]
  | i + 1 => by
    have hf : E i j = false := by
      cases he : E i j with
      | false => rfl
      | true => have := hE i j he; omega
    rw [Lc_miss E hf, Lc_beyond_col hE h i]
    have := (Lc_steps E i j).2
    omega

theorem Lc_top {n m : Nat} (hE : ∀ i j, E i j = true → i < n ∧ j < m) (a b : Nat) : Lc E (n + a) (m + b) = Lc E n m := by
  have h1 : ∀ b, Lc E n (m + b) = Lc E n m := by
    intro b
    induction b with
    | zero => rfl
    | succ b ih => rw [← Nat.add_assoc, Lc_beyond_col E (fun i j h => (hE i j h).2) (by omega), ih]
  induction a with
  | zero => exact h1 b
  | succ a ih => rw [← Nat.add_assoc, Lc_beyond_row E (fun i j h => (hE i j h).1) (by omega), ih]

theorem D_top {n m : Nat} (hE : ∀ i j, E i j = true → i < n ∧ j < m) {i j : Nat} (hi : n ≤ i) (hj : m ≤ j) : D E i j = D E n m + ((i : Int) - n) + ((j : Int) - m) := by
  have := Lc_top E hE (i - n) (j - m)
  have e1 : n + (i - n) = i := by omega
  have e2 : m + (j - m) = j := by omega
  rw [e1, e2] at this
  unfold D; omega

theorem Lc_le_n {n : Nat} (hE : ∀ i j, E i j = true → i < n) (i j : Nat) : Lc E i j ≤ n := by
  rcases Nat.le_total i n with h | h
  · have := (Lc_le E i j).1; omega
  · have : Lc E i j = Lc E n j := by
      have h2 : ∀ a, Lc E (n + a) j = Lc E n j := by
        intro a
        induction a with
        | zero => rfl
        | succ a ih => rw [← Nat.add_assoc, Lc_beyond_row E hE (by omega), ih]
      have := h2 (i - n)
      have e : n + (i - n) = i := by omega
      rwa [e] at this
    rw [this]; exact (Lc_le E n j).1

/-! ### the furthest point of a diagonal -/
/-- The column of the point on diagonal k in row i. -/
def col (k : Int) (i : Nat) : Nat := ((i : Int) - k).toNat

/-- i is the furthest that cost d reaches on diagonal k. -/
def FR (d k : Int) (i : Nat) : Prop := k ≤ i ∧ D E i (col k i) ≤ d ∧ d < D E (i + 1) (col k (i + 1))

theorem col_succ {k : Int} {i : Nat} (h : k ≤ i) : col k (i + 1) = col k i + 1 := by unfold col; omega

theorem diag_mono {k : Int} {i : Nat} (h : k ≤ i) : ∀ a, D E i (col k i) ≤ D E (i + a) (col k (i + a))
  | 0 => by simp
  | a + 1 => by
    have ih := diag_mono h a
    have e : col k (i + (a + 1)) = col k (i + a) + 1 := by unfold col; omega
    rw [e, ← Nat.add_assoc]
    have := D_diag E (i + a) (col k (i + a))
    omega

theorem FR_max {d k : Int} {i i' : Nat} (h : FR E d k i) (_hk : k ≤ i') (hd : D E i' (col k i') ≤ d) : i' ≤ i := by
  obtain ⟨h1, _, h3⟩ := h
  rcases Nat.lt_or_ge i i' with hlt | hge
  · have := diag_mono E (k := k) (i := i + 1) (by omega) (i' - (i + 1))
    have e : i + 1 + (i' - (i + 1)) = i' := by omega
    rw [e] at this
    omega
  · exact hge

theorem FR_le {n : Nat} (hE : ∀ i j, E i j = true → i < n) {d k : Int} {i : Nat} (h : FR E d k i) : (i : Int) ≤ n + d := by
  obtain ⟨h1, h2, _⟩ := h
  have h3 := Lc_le_n E hE i (col k i)
  have h4 := (Lc_le E i (col k i)).2
  unfold D at h2
  omega

/-- Where the search begins on diagonal k at cost d. -/
def fromI (d k : Int) (xm xp : Nat) : Nat := if k = -d ∨ (k ≠ d ∧ xm < xp) then xp else xm + 1

/-- One round of the search. -/
theorem reach_step {d k : Int} {xm xp i : Nat} (_hd : 1 ≤ d) (_hk1 : -d ≤ k) (_hk2 : k ≤ d) (hm : k ≠ -d → FR E (d - 1) (k - 1) xm) (hp : k ≠ d → FR E (d - 1) (k + 1) xp)
    (h0 : fromI d k xm xp ≤ i) (hs : ∀ t, fromI d k xm xp ≤ t → t < i → E t (col k t) = true) (he : E i (col k i) = false) : FR E d k i := by
  have hstart : k ≤ (fromI d k xm xp : Int) ∧ D E (fromI d k xm xp) (col k (fromI d k xm xp)) ≤ d := by
    unfold fromI
    split
    · rename_i hc
      have hkd : k ≠ d := by rcases hc with h | h; omega; exact h.1
      obtain ⟨g1, g2, _⟩ := hp hkd
      refine ⟨by omega, ?_⟩
      have e : col k xp = col (k + 1) xp + 1 := by unfold col; omega
      rw [e]
      have := (D_right E xp (col (k + 1) xp)).1
      omega
    · rename_i hc
      have hkd : k ≠ -d := fun e => hc (Or.inl e)
      obtain ⟨g1, g2, _⟩ := hm hkd
      refine ⟨by omega, ?_⟩
      have e : col k (xm + 1) = col (k - 1) xm := by unfold col; omega
      rw [e]
      have := (D_down E xm (col (k - 1) xm)).1
      omega
  generalize hf : fromI d k xm xp = f at *
  have hslide : ∀ a, f + a ≤ i → D E (f + a) (col k (f + a)) = D E f (col k f) := by
    intro a
    induction a with
    | zero => intro _; rfl
    | succ a ih =>
      intro ha
      have h1 := hs (f + a) (by omega) (by omega)
      have e : col k (f + (a + 1)) = col k (f + a) + 1 := by unfold col; omega
      rw [e, ← Nat.add_assoc, D_hit E h1, ih (by omega)]
  have hDi : D E i (col k i) ≤ d := by
    have := hslide (i - f) (by omega)
    have e : f + (i - f) = i := by omega
    rw [e] at this
    omega
  have hki : k ≤ (i : Int) := by omega
  refine ⟨hki, hDi, ?_⟩
  rcases Int.lt_or_le d (D E (i + 1) (col k (i + 1))) with h | hle
  · exact h
  · exfalso
    rw [col_succ hki, D_miss E he] at hle
    have hcase : D E i (col k i + 1) ≤ d - 1 ∨ D E (i + 1) (col k i) ≤ d - 1 := by omega
    rcases hcase with hA | hB
    · -- on diagonal k - 1
      have e : col k i + 1 = col (k - 1) i := by unfold col; omega
      rw [e] at hA
      by_cases hkd : k = -d
      · have := (D_ge E i (col (k - 1) i)).2.1
        have : ((col (k - 1) i : Nat) : Int) = (i : Int) - (k - 1) := by unfold col; omega
        omega
      · have hx := FR_max E (hm hkd) (by omega) hA
        unfold fromI at hf
        split at hf
        · rename_i hc
          rcases hc with hc | hc
          · exact hkd hc
          · omega
        · omega
    · -- on diagonal k + 1
      have e : col k i = col (k + 1) (i + 1) := by unfold col; omega
      rw [e] at hB
      by_cases hkd : k = d
      · have := (D_ge E (i + 1) (col (k + 1) (i + 1))).1
        have : ((col (k + 1) (i + 1) : Nat) : Int) = ((i : Int) + 1) - (k + 1) := by unfold col; omega
        omega
      · have hx := FR_max E (hp hkd) (by omega) hB
        unfold fromI at hf
        split at hf
        · omega
        · rename_i hc
          have : ¬ (k ≠ d ∧ xm < xp) := fun h => hc (Or.inr h)
          have : ¬ xm < xp := fun h => this ⟨hkd, h⟩
          omega

/-- The first round. -/
theorem reach_zero {i : Nat} (hs : ∀ t, t < i → E t (col 0 t) = true) (he : E i (col 0 i) = false) : FR E 0 0 i := by
  have hslide : ∀ a, a ≤ i → D E a (col 0 a) = 0 := by
    intro a
    induction a with
    | zero => intro _; show D E 0 0 = 0; exact D_zero E
    | succ a ih =>
      intro ha
      have h1 := hs a (by omega)
      have e : col 0 (a + 1) = col 0 a + 1 := by unfold col; omega
      rw [e, D_hit E h1, ih (by omega)]
  refine ⟨by omega, by rw [hslide i (Nat.le_refl _)]; omega, ?_⟩
  rw [col_succ (by omega), D_miss E he]
  have h1 := (D_ge E i (col 0 i + 1)).2.2.1
  have h2 := (D_ge E (i + 1) (col 0 i)).2.2.1
  omega

/-! ### when the search ends -/
theorem done_at {n m : Nat} (hE : ∀ i j, E i j = true → i < n ∧ j < m) {d k : Int} {i : Nat} (h : FR E d k i) (hle : d ≤ D E n m) (hi : n ≤ i) (hj : (m : Int) ≤ (i : Int) - k) :
    d = D E n m ∧ i = n ∧ k = (n : Int) - m := by
  obtain ⟨h1, h2, _⟩ := h
  have hc : ((col k i : Nat) : Int) = (i : Int) - k := by unfold col; omega
  have := D_top E hE hi (show m ≤ col k i by omega)
  omega

theorem not_done {n m : Nat} {d : Int} {i : Nat} (h : FR E d ((n : Int) - m) i) (hn : ¬ (n ≤ i ∧ (m : Int) ≤ (i : Int) - ((n : Int) - m))) : D E n m ≠ d := by
  intro e
  have hc : col ((n : Int) - m) n = m := by unfold col; omega
  have := FR_max E h (i' := n) (by omega) (by rw [hc]; omega)
  omega

end

/-! ### scripts -/
/-- ops leads from (i, j) to (n, m) with c deletions and insertions: 0: same, 1: del, 2: ins. -/
def Path (E : Nat → Nat → Bool) (n m : Nat) : List Int → Nat → Nat → Nat → Prop
  | [], i, j, c => i = n ∧ j = m ∧ c = 0
  | o :: r, i, j, c => (o = 0 ∧ i < n ∧ j < m ∧ E i j = true ∧ Path E n m r (i + 1) (j + 1) c) ∨ (o = 1 ∧ i < n ∧ 1 ≤ c ∧ Path E n m r (i + 1) j (c - 1)) ∨ (o = 2 ∧ j < m ∧ 1 ≤ c ∧ Path E n m r i (j + 1) (c - 1))

theorem path_same {E : Nat → Nat → Bool} {n m : Nat} {r : List Int} {i j c : Nat} (hi : i < n) (hj : j < m) (h : E i j = true) (hp : Path E n m r (i + 1) (j + 1) c) : Path E n m (0 :: r) i j c := Or.inl ⟨rfl, hi, hj, h, hp⟩
theorem path_del {E : Nat → Nat → Bool} {n m : Nat} {r : List Int} {i j c : Nat} (hi : i < n) (hp : Path E n m r (i + 1) j c) : Path E n m (1 :: r) i j (c + 1) := Or.inr (Or.inl ⟨rfl, hi, by omega, hp⟩)
theorem path_ins {E : Nat → Nat → Bool} {n m : Nat} {r : List Int} {i j c : Nat} (hj : j < m) (hp : Path E n m r i (j + 1) c) : Path E n m (2 :: r) i j (c + 1) := Or.inr (Or.inr ⟨rfl, hj, by omega, hp⟩)

/-- Every operation is one of the three. -/
theorem path_ops {E : Nat → Nat → Bool} {n m : Nat} : ∀ {r : List Int} {i j c : Nat}, Path E n m r i j c → ∀ o ∈ r, o = 0 ∨ o = 1 ∨ o = 2
  | [], _, _, _, _, o, ho => by simp at ho
  | x :: r, i, j, c, h, o, ho => by
    rcases List.mem_cons.1 ho with e | ho
    · subst e
      rcases h with ⟨h, _⟩ | ⟨h, _⟩ | ⟨h, _⟩ <;> simp [h]
    · rcases h with ⟨_, _, _, _, h⟩ | ⟨_, _, _, h⟩ | ⟨_, _, _, h⟩
      · exact path_ops h o ho
      · exact path_ops h o ho
      · exact path_ops h o ho

theorem path_len {E : Nat → Nat → Bool} {n m : Nat} : ∀ {r : List Int} {i j c : Nat}, Path E n m r i j c → i ≤ n ∧ j ≤ m ∧ r.length + i + j ≤ n + m
  | [], _, _, _, h => by obtain ⟨rfl, rfl, _⟩ := h; simp
  | x :: r, i, j, c, h => by
    rcases h with ⟨_, h1, h2, _, h⟩ | ⟨_, h1, _, h⟩ | ⟨_, h1, _, h⟩
    · have := path_len h; simp; omega
    · have := path_len h; simp; omega
    · have := path_len h; simp; omega

end Go.Proofs.Qxb6605460a.Plain
