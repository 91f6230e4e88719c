/-
  Plain mathematics of the seat b6003855a: no Go in sight. What the long and the short matcher compute, that they agree, and what they answer at two equal names.
-/
namespace Go.Proofs.Qxb6003855a.Plain

/-- The places of r in b, in order. -/
def places (b : List Int) (r : Int) : List Nat := (List.range b.length).filter (fun j => b.getD j 0 == r)

/-- The places of r among the first i of b. -/
def placesTo (b : List Int) (i : Nat) (r : Int) : List Nat := (List.range i).filter (fun j => b.getD j 0 == r)

/-- The window. -/
def win (n m : Nat) : Nat := max n m / 2 - 1

/-- The cursor past the places that lie behind 'lo'. -/
def adv (js : List Nat) (lo : Int) (k : Nat) : Nat := k + ((js.drop k).takeWhile (fun (j : Nat) => decide ((j : Int) < lo))).length

structure LS where
  inA : List Int
  mt : List Bool
  nx : Int → Nat

def hit (b : List Int) (w i : Nat) (r : Int) (k : Nat) : Bool :=
  decide (k < (places b r).length) && decide ((places b r).getD k 0 ≤ i + w)

def cur (b : List Int) (w i : Nat) (r : Int) (s : LS) : Nat := adv (places b r) ((i : Int) - w) (s.nx r)

def lstep (b : List Int) (w i : Nat) (r : Int) (s : LS) : LS :=
  if hit b w i r (cur b w i r s) then
    ⟨s.inA ++ [r], s.mt.set ((places b r).getD (cur b w i r s) 0) true, fun x => if x = r then cur b w i r s + 1 else s.nx x⟩
  else ⟨s.inA, s.mt, fun x => if x = r then cur b w i r s else s.nx x⟩

def lto (a b : List Int) : Nat → LS
  | 0 => ⟨[], List.replicate b.length false, fun _ => 0⟩
  | i + 1 => lstep b (win a.length b.length) i (a.getD i 0) (lto a b i)

/-- The first place in the window that bears r and is not matched. -/
def sfind (b : List Int) (mt : List Bool) (w i : Nat) (r : Int) : Option Nat :=
  (List.range b.length).find? (fun j => decide (i ≤ j + w) && (decide (j ≤ i + w) && (b.getD j 0 == r && !mt.getD j false)))

def sstep (b : List Int) (w i : Nat) (r : Int) (s : List Int × List Bool) : List Int × List Bool :=
  match sfind b s.2 w i r with
  | some j => (s.1 ++ [r], s.2.set j true)
  | none => s

def sto (a b : List Int) : Nat → List Int × List Bool
  | 0 => ([], List.replicate b.length false)
  | i + 1 => sstep b (win a.length b.length) i (a.getD i 0) (sto a b i)

/-- out of order: (t, k) after j characters of b. -/
def ooTo (inA b : List Int) (mt : List Bool) : Nat → Nat × Nat
  | 0 => (0, 0)
  | j + 1 => if mt.getD j false then (if inA.getD (ooTo inA b mt j).2 0 = b.getD j 0 then (ooTo inA b mt j).1 else (ooTo inA b mt j).1 + 1, (ooTo inA b mt j).2 + 1) else ooTo inA b mt j

/-! ### places -/
theorem mem_places {b : List Int} {r : Int} {j : Nat} : j ∈ places b r ↔ j < b.length ∧ b.getD j 0 = r := by
  simp [places]

theorem places_sorted (b : List Int) (r : Int) : (places b r).Pairwise (· < ·) := by
  unfold places
  exact List.Pairwise.filter _ List.pairwise_lt_range

theorem places_lt {b : List Int} {r : Int} {s t : Nat} (hst : s < t) (ht : t < (places b r).length) : (places b r)[s] < (places b r)[t] :=
  List.pairwise_iff_getElem.1 (places_sorted b r) s t _ _ hst

theorem places_le {b : List Int} {r : Int} {s t : Nat} (hst : s ≤ t) (ht : t < (places b r).length) : (places b r)[s] ≤ (places b r)[t] := by
  rcases Nat.lt_or_ge s t with h | h
  · exact Nat.le_of_lt (places_lt h ht)
  · have : s = t := by omega
    subst this; exact Nat.le_refl _

theorem places_at {b : List Int} {r : Int} {t : Nat} (ht : t < (places b r).length) : (places b r)[t] < b.length ∧ b.getD (places b r)[t] 0 = r :=
  mem_places.1 (List.getElem_mem ht)

/-! ### the cursor -/
theorem takeWhile_spec (p : Nat → Bool) : ∀ (l : List Nat), (∀ t (_ : t < (l.takeWhile p).length), ∃ h' : t < l.length, p l[t] = true) ∧ (∀ h : (l.takeWhile p).length < l.length, p l[(l.takeWhile p).length] = false) ∧ (l.takeWhile p).length ≤ l.length
  | [] => by simp
  | x :: l => by
    obtain ⟨h1, h2, h3⟩ := takeWhile_spec p l
    cases hx : p x with
    | false => simp [hx]
    | true =>
      simp only [List.takeWhile_cons, hx, if_true, List.length_cons]
      refine ⟨fun t h => ?_, fun h => ?_, by omega⟩
      · cases t with
        | zero => exact ⟨by omega, by simpa using hx⟩
        | succ t => obtain ⟨h', e⟩ := h1 t (by omega); exact ⟨by omega, by simpa using e⟩
      · simpa using h2 (by omega)

theorem adv_ge (js : List Nat) (lo : Int) (k : Nat) : k ≤ adv js lo k := by unfold adv; omega
theorem adv_le (js : List Nat) (lo : Int) (k : Nat) (hk : k ≤ js.length) : adv js lo k ≤ js.length := by
  unfold adv
  have := (takeWhile_spec (fun (j : Nat) => decide ((j : Int) < lo)) (js.drop k)).2.2
  simp at this; omega
theorem adv_before (js : List Nat) (lo : Int) (k t : Nat) (h1 : k ≤ t) (h2 : t < adv js lo k) : ∃ h : t < js.length, ((js[t] : Nat) : Int) < lo := by
  unfold adv at h2
  obtain ⟨h', e⟩ := (takeWhile_spec (fun (j : Nat) => decide ((j : Int) < lo)) (js.drop k)).1 (t - k) (by omega)
  simp at h'
  refine ⟨by omega, ?_⟩
  simp at e
  have : k + (t - k) = t := by omega
  simpa [this] using e
theorem adv_at (js : List Nat) (lo : Int) (k : Nat) (h : adv js lo k < js.length) : lo ≤ ((js[adv js lo k] : Nat) : Int) := by
  have e := (takeWhile_spec (fun (j : Nat) => decide ((j : Int) < lo)) (js.drop k)).2.1 (by unfold adv at h; simp; omega)
  simp at e
  simpa [adv] using e
/-- one step of the cursor's loop. -/
theorem adv_step (js : List Nat) (lo : Int) (k : Nat) (h : k < js.length) (hl : ((js[k] : Nat) : Int) < lo) : adv js lo k = adv js lo (k + 1) := by
  unfold adv
  rw [List.drop_eq_getElem_cons h, List.takeWhile_cons]
  simp [hl]; omega
theorem adv_stop (js : List Nat) (lo : Int) (k : Nat) (h : ∀ h : k < js.length, lo ≤ ((js[k] : Nat) : Int)) : adv js lo k = k := by
  unfold adv
  rcases Nat.lt_or_ge k js.length with hk | hk
  · rw [List.drop_eq_getElem_cons hk, List.takeWhile_cons]
    have := h hk
    simp; omega
  · rw [List.drop_eq_nil_of_le hk]; simp


/-! ### the two matchers agree -/
theorem getD_set_true (mt : List Bool) (j x : Nat) : (mt.set j true).getD x false = (decide (x = j ∧ x < mt.length) || mt.getD x false) := by
  simp only [List.getD, List.getElem?_set]
  by_cases h : j = x
  · subst h
    by_cases h2 : j < mt.length <;> simp [h2]
  · have : ¬ (x = j) := fun e => h e.symm
    simp [h, this]

/-- What holds of the cursors after i rounds. -/
def Inv (b : List Int) (w i : Nat) (s : LS) : Prop :=
  s.mt.length = b.length ∧ ∀ r, s.nx r ≤ (places b r).length ∧
    (∀ t (h : t < (places b r).length), t < s.nx r → s.mt.getD (places b r)[t] false = true ∨ (places b r)[t] + w < i) ∧
    (∀ t (h : t < (places b r).length), s.nx r ≤ t → s.mt.getD (places b r)[t] false = false)

theorem inv_start (b : List Int) (w : Nat) : Inv b w 0 ⟨[], List.replicate b.length false, fun _ => 0⟩ := by
  refine ⟨by simp, fun r => ⟨Nat.zero_le _, fun t h h' => by simp at h', fun t h _ => ?_⟩⟩
  have := (places_at h).1
  simp [List.getD, this]

theorem getD_of_lt {js : List Nat} {k : Nat} (h : k < js.length) : js.getD k 0 = js[k] := by
  simp [List.getD, List.getElem?_eq_getElem h]

theorem inv_step (b : List Int) (w i : Nat) (r : Int) (s : LS) (h : Inv b w i s) : Inv b w (i + 1) (lstep b w i r s) := by
  obtain ⟨hl, hr⟩ := h
  obtain ⟨hk, hb, ha⟩ := hr r
  have c1 : s.nx r ≤ cur b w i r s := adv_ge _ _ _
  have c2 : cur b w i r s ≤ (places b r).length := adv_le _ _ _ hk
  unfold lstep
  split
  · rename_i hh
    simp [hit] at hh
    obtain ⟨h1, h2⟩ := hh
    rw [getD_of_lt h1]
    refine ⟨by simpa using hl, fun x => ?_⟩
    by_cases hx : x = r
    · subst hx
      simp only [if_true]
      refine ⟨h1, fun t ht htk => ?_, fun t ht htk => ?_⟩
      · rw [getD_set_true]
        by_cases e : t = cur b w i x s
        · subst e
          have := (places_at h1).1
          simp [hl, this]
        · rcases Nat.lt_or_ge t (s.nx x) with h3 | h3
          · rcases hb t ht h3 with h4 | h4
            · left; rw [h4]; simp
            · right; omega
          · obtain ⟨_, h4⟩ := adv_before (places b x) ((i : Int) - w) (s.nx x) t h3 (by unfold cur at htk e; omega)
            right; omega
      · rw [getD_set_true]
        have h4 := places_lt (b := b) (r := x) (s := cur b w i x s) (t := t) (by omega) ht
        have h5 := ha t ht (by omega)
        rw [h5]
        simp; omega
    · simp only [if_neg hx]
      obtain ⟨hk', hb', ha'⟩ := hr x
      have hne : ∀ t (ht : t < (places b x).length), (places b x)[t] ≠ (places b r)[cur b w i r s] := fun t ht e => by
        have e1 := (places_at ht).2
        have e2 := (places_at h1).2
        rw [e] at e1
        exact hx (e1.symm.trans e2)
      refine ⟨hk', fun t ht htk => ?_, fun t ht htk => ?_⟩
      · rw [getD_set_true]
        rcases hb' t ht htk with h4 | h4
        · left; rw [h4]; simp
        · right; omega
      · rw [getD_set_true, ha' t ht htk]
        simp [hne t ht]
  · refine ⟨hl, fun x => ?_⟩
    by_cases hx : x = r
    · subst hx
      simp only [if_true]
      refine ⟨c2, fun t ht htk => ?_, fun t ht htk => ha t ht (by omega)⟩
      rcases Nat.lt_or_ge t (s.nx x) with h3 | h3
      · rcases hb t ht h3 with h4 | h4
        · left; exact h4
        · right; omega
      · obtain ⟨_, h4⟩ := adv_before (places b x) ((i : Int) - w) (s.nx x) t h3 (by unfold cur at htk; omega)
        right; omega
    · simp only [if_neg hx]
      obtain ⟨hk', hb', ha'⟩ := hr x
      refine ⟨hk', fun t ht htk => ?_, ha'⟩
      rcases hb' t ht htk with h4 | h4
      · left; exact h4
      · right; omega

theorem find_range_some {p : Nat → Bool} : ∀ {n j : Nat}, j < n → p j = true → (∀ x, x < j → p x = false) → (List.range n).find? p = some j := by
  intro n j hj hp hl
  have : List.range n = List.range j ++ j :: (List.range' (j + 1) (n - j - 1)) := by
    rw [List.range_eq_range', List.range_eq_range']
    have e : j :: List.range' (j + 1) (n - j - 1) = List.range' (0 + 1 * j) (n - j - 1 + 1) := by
      rw [List.range'_succ]; simp
    rw [e, List.range'_append]
    congr 1; omega
  rw [this, List.find?_append]
  have h0 : (List.range j).find? p = none := by
    rw [List.find?_eq_none]; intro x hx; simp at hx; simp [hl x hx]
  rw [h0]; simp [hp]

theorem sfind_of (b : List Int) (w i : Nat) (r : Int) (s : LS) (h : Inv b w i s) :
    sfind b s.mt w i r = if hit b w i r (cur b w i r s) then some ((places b r).getD (cur b w i r s) 0) else none := by
  obtain ⟨hl, hr⟩ := h
  obtain ⟨hk, hb, ha⟩ := hr r
  have c1 : s.nx r ≤ cur b w i r s := adv_ge _ _ _
  have c2 : cur b w i r s ≤ (places b r).length := adv_le _ _ _ hk
  -- no place ahead of the cursor serves
  have early : ∀ t (ht : t < (places b r).length), t < cur b w i r s → i ≤ (places b r)[t] + w → s.mt.getD (places b r)[t] false = true := by
    intro t ht htc hi
    rcases Nat.lt_or_ge t (s.nx r) with h3 | h3
    · rcases hb t ht h3 with h4 | h4
      · exact h4
      · omega
    · obtain ⟨_, h4⟩ := adv_before (places b r) ((i : Int) - w) (s.nx r) t h3 htc
      omega
  split
  · rename_i hh
    simp [hit] at hh
    obtain ⟨h1, h2⟩ := hh
    rw [getD_of_lt h1]
    have h3 := adv_at (places b r) ((i : Int) - w) (s.nx r) h1
    change (i : Int) - w ≤ (((places b r)[cur b w i r s] : Nat) : Int) at h3
    rw [List.getElem?_eq_getElem h1] at h2
    simp at h2
    refine find_range_some (places_at h1).1 ?_ ?_
    · have h5 := (places_at h1).2
      have h6 := ha _ h1 c1
      rw [h5, h6]
      simp; omega
    · intro x hx
      apply Bool.eq_false_iff.2
      intro hp
      simp only [Bool.and_eq_true, decide_eq_true_eq, beq_iff_eq, Bool.not_eq_true'] at hp
      obtain ⟨p1, p2, p3, p4⟩ := hp
      have hxm : x ∈ places b r := mem_places.2 ⟨by have := (places_at h1).1; omega, p3⟩
      obtain ⟨t, ht, rfl⟩ := List.getElem_of_mem hxm
      have htc : t < cur b w i r s := by
        rcases Nat.lt_or_ge t (cur b w i r s) with h7 | h7
        · exact h7
        · have := places_le (b := b) (r := r) h7 ht; omega
      rw [early t ht htc p1] at p4
      cases p4
  · rename_i hh
    unfold sfind
    rw [List.find?_eq_none]
    intro x hx hp
    simp only [Bool.and_eq_true, decide_eq_true_eq, beq_iff_eq, Bool.not_eq_true'] at hp
    obtain ⟨p1, p2, p3, p4⟩ := hp
    have hxm : x ∈ places b r := mem_places.2 ⟨by simpa using hx, p3⟩
    obtain ⟨t, ht, rfl⟩ := List.getElem_of_mem hxm
    rcases Nat.lt_or_ge t (cur b w i r s) with h7 | h7
    · rw [early t ht h7 p1] at p4
      cases p4
    · have h8 := places_le (b := b) (r := r) h7 ht
      apply hh
      have h1 : cur b w i r s < (places b r).length := by omega
      simp [hit, h1]
      omega

theorem agree (a b : List Int) : ∀ i, Inv b (win a.length b.length) i (lto a b i) ∧ sto a b i = ((lto a b i).inA, (lto a b i).mt)
  | 0 => ⟨inv_start _ _, rfl⟩
  | i + 1 => by
    obtain ⟨h1, h2⟩ := agree a b i
    refine ⟨inv_step _ _ _ _ _ h1, ?_⟩
    show sstep b (win a.length b.length) i (a.getD i 0) (sto a b i) = _
    rw [h2]
    unfold sstep
    simp only [sfind_of _ _ _ (a.getD i 0) _ h1]
    show _ = ((lstep b (win a.length b.length) i (a.getD i 0) (lto a b i)).inA, (lstep b (win a.length b.length) i (a.getD i 0) (lto a b i)).mt)
    unfold lstep
    by_cases hh : hit b (win a.length b.length) i (a.getD i 0) (cur b (win a.length b.length) i (a.getD i 0) (lto a b i)) = true
    · rw [if_pos hh, if_pos hh]
    · rw [if_neg hh, if_neg hh]

/-! ### how many are matched -/
def cnt (l : List Bool) : Nat := (l.filter id).length

theorem cnt_set : ∀ (l : List Bool) (j : Nat), j < l.length → l.getD j false = false → cnt (l.set j true) = cnt l + 1
  | [], j, h, _ => by simp at h
  | x :: l, 0, _, h => by simp at h; subst h; simp [cnt]
  | x :: l, j + 1, h, h' => by
    have := cnt_set l j (by simpa using h) (by simpa using h')
    simp only [cnt, List.set_cons_succ] at this ⊢
    cases x <;> simp [this]

theorem inA_cnt (a b : List Int) : ∀ i, (lto a b i).inA.length = cnt (lto a b i).mt
  | 0 => by
    have : ∀ n, cnt (List.replicate n false) = 0 := fun n => by simp [cnt]
    simp [lto, this]
  | i + 1 => by
    have ih := inA_cnt a b i
    obtain ⟨⟨hl, hr⟩, _⟩ := agree a b i
    show (lstep b _ i (a.getD i 0) (lto a b i)).inA.length = cnt (lstep b _ i (a.getD i 0) (lto a b i)).mt
    unfold lstep
    split
    · rename_i hh
      simp only [hit, Bool.and_eq_true, decide_eq_true_eq] at hh
      obtain ⟨h1, h2⟩ := hh
      rw [getD_of_lt h1]
      rw [cnt_set _ _ (by rw [hl]; exact (places_at h1).1) ((hr _).2.2 _ h1 (adv_ge _ _ _))]
      simp [ih]
    · exact ih

theorem lto_mt_len (a b : List Int) (i : Nat) : (lto a b i).mt.length = b.length := (agree a b i).1.1

theorem inA_le (a b : List Int) : ∀ i, (lto a b i).inA.length ≤ i
  | 0 => by simp [lto]
  | i + 1 => by
    have ih := inA_le a b i
    show (lstep b _ i (a.getD i 0) (lto a b i)).inA.length ≤ i + 1
    unfold lstep
    split <;> simp <;> omega

theorem inA_le_b (a b : List Int) (i : Nat) : (lto a b i).inA.length ≤ b.length := by
  rw [inA_cnt, ← lto_mt_len a b i]
  exact List.length_filter_le _ _

/-! ### out of order -/
theorem oo_k (inA b : List Int) (mt : List Bool) : ∀ j, j ≤ mt.length → (ooTo inA b mt j).2 = cnt (mt.take j)
  | 0, _ => by simp [ooTo, cnt]
  | j + 1, h => by
    have ih := oo_k inA b mt j (by omega)
    have e : mt.take (j + 1) = mt.take j ++ [mt[j]] := by rw [List.take_succ_eq_append_getElem (by omega)]
    have e2 : mt.getD j false = mt[j] := by simp [List.getD, List.getElem?_eq_getElem (show j < mt.length by omega)]
    rw [e]
    unfold ooTo
    rw [e2]
    cases hm : mt[j] <;> simp [cnt] <;> simpa [cnt] using ih

theorem oo_lt (inA b : List Int) (mt : List Bool) (hc : inA.length = cnt mt) (j : Nat) (hj : j < mt.length) (hm : mt.getD j false = true) : (ooTo inA b mt j).2 < inA.length := by
  rw [oo_k _ _ _ _ (by omega), hc]
  have e2 : mt.getD j false = mt[j] := by simp [List.getD, List.getElem?_eq_getElem hj]
  have e : mt = mt.take j ++ mt[j] :: mt.drop (j + 1) := by
    rw [← List.drop_eq_getElem_cons hj, List.take_append_drop]
  have h2 : cnt mt = cnt (mt.take j) + cnt (mt[j] :: mt.drop (j + 1)) := by
    have e3 : cnt (mt.take j ++ mt[j] :: mt.drop (j + 1)) = cnt (mt.take j) + cnt (mt[j] :: mt.drop (j + 1)) := by
      unfold cnt; rw [List.filter_append, List.length_append]
    rw [← e3, ← e]
  rw [h2, ← e2, hm]
  simp [cnt]

theorem oo_le (inA b : List Int) (mt : List Bool) : ∀ j, (ooTo inA b mt j).1 ≤ j ∧ (ooTo inA b mt j).2 ≤ j
  | 0 => by simp [ooTo]
  | j + 1 => by
    have ih := oo_le inA b mt j
    unfold ooTo
    split
    · dsimp only
      split <;> omega
    · omega

/-! ### a name against itself -/
theorem placesTo_succ (b : List Int) (i : Nat) (r : Int) : placesTo b (i + 1) r = if b.getD i 0 = r then placesTo b i r ++ [i] else placesTo b i r := by
  unfold placesTo
  rw [List.range_succ, List.filter_append]
  by_cases h : b.getD i 0 = r
  · rw [if_pos h, List.filter_cons, if_pos (by rw [h]; simp)]; rfl
  · rw [if_neg h, List.filter_cons, if_neg (by simpa using h)]; simp

theorem places_split (b : List Int) (i : Nat) (hi : i < b.length) : ∃ rest, places b (b.getD i 0) = placesTo b i (b.getD i 0) ++ i :: rest := by
  refine ⟨(List.range' (i + 1) (b.length - i - 1)).filter (fun j => b.getD j 0 == b.getD i 0), ?_⟩
  have e : List.range b.length = List.range i ++ i :: (List.range' (i + 1) (b.length - i - 1)) := by
    rw [List.range_eq_range', List.range_eq_range']
    have e : i :: List.range' (i + 1) (b.length - i - 1) = List.range' (0 + 1 * i) (b.length - i - 1 + 1) := by
      rw [List.range'_succ]; simp
    rw [e, List.range'_append]
    congr 1; omega
  unfold places placesTo
  rw [e, List.filter_append, List.filter_cons]
  simp

def upTo (n i : Nat) : List Bool := List.replicate i true ++ List.replicate (n - i) false

theorem upTo_set (n i : Nat) (h : i < n) : (upTo n i).set i true = upTo n (i + 1) := by
  unfold upTo
  rw [List.set_append_right _ _ (by simp)]
  have : n - i = (n - (i + 1)) + 1 := by omega
  rw [this, List.replicate_succ (n := n - (i + 1))]
  simp [List.replicate_succ' (n := i)]

theorem self_to (a : List Int) : ∀ i, i ≤ a.length → (lto a a i).inA = a.take i ∧ (lto a a i).mt = upTo a.length i ∧ ∀ r, (lto a a i).nx r = (placesTo a i r).length
  | 0, _ => by simp [lto, upTo, placesTo]
  | i + 1, h => by
    obtain ⟨h1, h2, h3⟩ := self_to a i (by omega)
    obtain ⟨rest, hs⟩ := places_split a i (by omega)
    have hc : cur a (win a.length a.length) i (a.getD i 0) (lto a a i) = (placesTo a i (a.getD i 0)).length := by
      unfold cur
      rw [h3]
      apply adv_stop
      intro hk
      have e : (places a (a.getD i 0))[(placesTo a i (a.getD i 0)).length] = i := by
        rw [List.getElem_of_eq hs]; simp
      rw [e]; omega
    have hg : (places a (a.getD i 0)).getD (placesTo a i (a.getD i 0)).length 0 = i := by
      rw [hs]; simp
    have hh : hit a (win a.length a.length) i (a.getD i 0) (cur a (win a.length a.length) i (a.getD i 0) (lto a a i)) = true := by
      rw [hc]
      unfold hit
      rw [hg, hs]
      simp
    show (lstep a _ i (a.getD i 0) (lto a a i)).inA = _ ∧ (lstep a _ i (a.getD i 0) (lto a a i)).mt = _ ∧ ∀ r, (lstep a _ i (a.getD i 0) (lto a a i)).nx r = _
    unfold lstep
    rw [if_pos hh, hc, hg, h1, h2]
    refine ⟨?_, upTo_set _ _ (by omega), fun r => ?_⟩
    · rw [List.take_succ_eq_append_getElem (by omega)]
      simp [List.getD, List.getElem?_eq_getElem (show i < a.length by omega)]
    · rw [placesTo_succ]
      dsimp only
      by_cases e : r = a.getD i 0
      · subst e
        simp
      · rw [if_neg e, if_neg (fun e' => e e'.symm)]
        exact h3 r

theorem oo_self (a : List Int) : ∀ j, j ≤ a.length → ooTo a a (upTo a.length a.length) j = (0, j)
  | 0, _ => rfl
  | j + 1, h => by
    have ih := oo_self a j (by omega)
    have e : (upTo a.length a.length).getD j false = true := by
      simp [upTo, List.getD, show j < a.length by omega]
    unfold ooTo
    rw [e, ih]
    simp

/-- What both matchers answer at two equal names. -/
theorem self_answer (a : List Int) : (lto a a a.length).inA.length = a.length ∧ (ooTo (lto a a a.length).inA a (lto a a a.length).mt a.length).1 / 2 = 0 := by
  obtain ⟨h1, h2, _⟩ := self_to a a.length (Nat.le_refl _)
  rw [h1, h2, List.take_length, oo_self a a.length (Nat.le_refl _)]
  simp

end Go.Proofs.Qxb6003855a.Plain
