/-
  The seat b6605460a: texts of strings: plain mathematics: a common start and a common end leave the distance as it is.
-/
import Derived.Test.Qxb6605460aSearchParts
namespace Go.Proofs.Qxb6605460a
open Go.RowKit Go.Maps

/-! ### a number for each string -/
def codeL : List UInt8 → Nat
  | [] => 0
  | b :: r => codeL r * 256 + b.toNat + 1
theorem codeL_inj : ∀ {a b : List UInt8}, codeL a = codeL b → a = b
  | [], [], _ => rfl
  | [], b :: r, h => by simp [codeL] at h
  | b :: r, [], h => by simp [codeL] at h
  | x :: a, y :: b, h => by
    have hx := x.toNat_lt
    have hy := y.toNat_lt
    simp only [codeL] at h
    have h1 : x.toNat = y.toNat := by omega
    have h2 : codeL a = codeL b := by omega
    rw [codeL_inj h2, UInt8.toNat_inj.1 h1]
def code (s : ByteArray) : Int := (codeL s.data.toList : Int)
theorem code_inj {a b : ByteArray} (h : code a = code b) : a = b := by
  have h1 : codeL a.data.toList = codeL b.data.toList := by unfold code at h; omega
  have h2 := codeL_inj h1
  cases a with
  | mk x => cases b with
    | mk y => congr 1; exact Array.toList_inj.1 h2

def sth (L : List ByteArray) (k : Nat) : ByteArray := L.getD k ⟨#[]⟩
def cs (L : List ByteArray) : List Int := L.map code
theorem cs_len (L : List ByteArray) : (cs L).length = L.length := by simp [cs]
theorem cs_at {L : List ByteArray} {k : Nat} (h : k < L.length) : nth (cs L) k = code (sth L k) := by
  simp [nth, cs, sth, List.getD, List.getElem?_eq_getElem h]
theorem sth_eq {L : List ByteArray} {k : Nat} (h : k < L.length) : sth L k = L[k] := by simp [sth, List.getD, List.getElem?_eq_getElem h]

/-! ### the table on a part of the grid -/
namespace Plain
theorem Lc_congr {E E' : Nat → Nat → Bool} {n m : Nat} (h : ∀ i j, i < n → j < m → E i j = E' i j) : ∀ i j, i ≤ n → j ≤ m → Lc E i j = Lc E' i j
  | 0, j, _, _ => rfl
  | i + 1, 0, _, _ => by rw [Lc_left, Lc_left]
  | i + 1, j + 1, hi, hj => by
    have h1 := Lc_congr h i j (by omega) (by omega)
    have h2 := Lc_congr h i (j + 1) (by omega) hj
    have h3 := Lc_congr h (i + 1) j hi (by omega)
    have he := h i j (by omega) (by omega)
    cases hE : E i j with
    | true => rw [Lc_hit E hE, Lc_hit E' (by rw [← he]; exact hE), h1]
    | false => rw [Lc_miss E hE, Lc_miss E' (by rw [← he]; exact hE), h2, h3]

theorem Lc_row_one {E : Nat → Nat → Bool} (h : E 0 0 = true) (j : Nat) : Lc E 1 (j + 1) = 1 := by
  have h0 : Lc E 1 1 = 1 := by rw [Lc_hit E (i := 0) (j := 0) h, Lc_zero]
  have h1 : ∀ j, Lc E 1 1 ≤ Lc E 1 (j + 1) := by
    intro j
    induction j with
    | zero => exact Nat.le_refl _
    | succ j ih => have := ((Lc_steps E 1 (j + 1)).1).1; omega
  have := h1 j
  have := (Lc_le E 1 (j + 1)).1
  omega
theorem Lc_col_one {E : Nat → Nat → Bool} (h : E 0 0 = true) (i : Nat) : Lc E (i + 1) 1 = 1 := by
  have h0 : Lc E 1 1 = 1 := by rw [Lc_hit E (i := 0) (j := 0) h, Lc_zero]
  have h1 : ∀ i, Lc E 1 1 ≤ Lc E (i + 1) 1 := by
    intro i
    induction i with
    | zero => exact Nat.le_refl _
    | succ i ih => have := ((Lc_steps E (i + 1) 1).2).1; omega
  have := h1 i
  have := (Lc_le E (i + 1) 1).2
  omega

theorem Lc_first {E : Nat → Nat → Bool} (h : E 0 0 = true) : ∀ i j, Lc E (i + 1) (j + 1) = Lc (fun a b => E (a + 1) (b + 1)) i j + 1
  | 0, j => by rw [Lc_zero]; exact Lc_row_one h j
  | i + 1, 0 => by rw [Lc_left]; exact Lc_col_one h (i + 1)
  | i + 1, j + 1 => by
    have h1 := Lc_first h i j
    have h2 := Lc_first h i (j + 1)
    have h3 := Lc_first h (i + 1) j
    cases hE : E (i + 1) (j + 1) with
    | true => rw [Lc_hit E hE, Lc_hit (fun a b => E (a + 1) (b + 1)) hE, h1]
    | false => rw [Lc_miss E hE, Lc_miss (fun a b => E (a + 1) (b + 1)) hE, h2, h3]; omega

theorem Lc_pre : ∀ (p : Nat) {E : Nat → Nat → Bool}, (∀ t, t < p → E t t = true) → ∀ i j, Lc E (p + i) (p + j) = Lc (fun a b => E (p + a) (p + b)) i j + p
  | 0, E, _, i, j => by simp
  | p + 1, E, h, i, j => by
    have e1 : p + 1 + i = (p + i) + 1 := by omega
    have e2 : p + 1 + j = (p + j) + 1 := by omega
    rw [e1, e2, Lc_first (h 0 (by omega)), Lc_pre p (fun t ht => h (t + 1) (by omega)) i j]
    have e3 : (fun a b => E (p + a + 1) (p + b + 1)) = (fun a b => E (p + 1 + a) (p + 1 + b)) := by
      funext a b
      rw [show p + a + 1 = p + 1 + a by omega, show p + b + 1 = p + 1 + b by omega]
    rw [e3]
    omega

theorem Lc_suf {E : Nat → Nat → Bool} (i j : Nat) : ∀ (s : Nat), (∀ t, t < s → E (i + t) (j + t) = true) → Lc E (i + s) (j + s) = Lc E i j + s
  | 0, _ => rfl
  | s + 1, h => by
    rw [← Nat.add_assoc, ← Nat.add_assoc, Lc_hit E (h s (by omega)), Lc_suf i j s (fun t ht => h t (by omega))]
    omega

/-! ### scripts of a part -/
theorem path_sames {E : Nat → Nat → Bool} {n m : Nat} : ∀ (s : Nat) {r : List Int} {i j c : Nat}, i + s ≤ n → j + s ≤ m → (∀ t, t < s → E (i + t) (j + t) = true) → Path E n m r (i + s) (j + s) c → Path E n m (List.replicate s 0 ++ r) i j c
  | 0, _, _, _, _, _, _, _, hp => by simpa using hp
  | s + 1, r, i, j, c, h1, h2, h, hp => by
    rw [List.replicate_succ, List.cons_append]
    refine path_same (by omega) (by omega) (by have := h 0 (by omega); simpa using this) ?_
    refine path_sames s (by omega) (by omega) (fun t ht => ?_) ?_
    · have := h (t + 1) (by omega)
      rw [show i + 1 + t = i + (t + 1) by omega, show j + 1 + t = j + (t + 1) by omega]; exact this
    · rw [show i + 1 + s = i + (s + 1) by omega, show j + 1 + s = j + (s + 1) by omega]; exact hp

theorem path_part {E E' : Nat → Nat → Bool} {n m n' m' p : Nat} (hn : p + n' ≤ n) (hm : p + m' ≤ m) (hE : ∀ i j, i < n' → j < m' → E' i j = true → E (p + i) (p + j) = true) {tail : List Int} (ht : Path E n m tail (p + n') (p + m') 0) :
    ∀ {r : List Int} {i j c : Nat}, Path E' n' m' r i j c → Path E n m (r ++ tail) (p + i) (p + j) c
  | [], i, j, c, h => by obtain ⟨rfl, rfl, rfl⟩ := h; simpa using ht
  | o :: r, i, j, c, h => by
    rw [List.cons_append]
    rcases h with ⟨rfl, h1, h2, h3, h4⟩ | ⟨rfl, h1, h2, h4⟩ | ⟨rfl, h1, h2, h4⟩
    · exact path_same (by omega) (by omega) (hE i j h1 h2 h3) (path_part hn hm hE ht h4)
    · have := path_del (E := E) (n := n) (m := m) (i := p + i) (j := p + j) (by omega) (path_part hn hm hE ht h4)
      rwa [show c - 1 + 1 = c by omega] at this
    · have := path_ins (E := E) (n := n) (m := m) (i := p + i) (j := p + j) (by omega) (path_part hn hm hE ht h4)
      rwa [show c - 1 + 1 = c by omega] at this
end Plain

/-! ### the common start and the common end -/
structure IsPre (A B : List Int) (p : Nat) : Prop where
  la : p ≤ A.length
  lb : p ≤ B.length
  eq : ∀ t, t < p → nth A t = nth B t
  stop : p < A.length → p < B.length → ¬ nth A p = nth B p

theorem exists_pre (A B : List Int) : ∃ p, IsPre A B p := by
  have key : ∀ k, ∃ p, (p ≤ A.length ∧ p ≤ B.length ∧ ∀ t, t < p → nth A t = nth B t) ∧ (p = k ∨ (p < A.length → p < B.length → ¬ nth A p = nth B p)) := by
    intro k
    induction k with
    | zero => exact ⟨0, ⟨Nat.zero_le _, Nat.zero_le _, fun t ht => by omega⟩, Or.inl rfl⟩
    | succ k ih =>
      obtain ⟨p, hp, h⟩ := ih
      rcases h with rfl | h
      · by_cases g : p < A.length ∧ p < B.length ∧ nth A p = nth B p
        · refine ⟨p + 1, ⟨by omega, by omega, fun t ht => ?_⟩, Or.inl rfl⟩
          by_cases e : t = p
          · subst e; exact g.2.2
          · exact hp.2.2 t (by omega)
        · exact ⟨p, hp, Or.inr (fun h1 h2 h3 => g ⟨h1, h2, h3⟩)⟩
      · exact ⟨p, hp, Or.inr h⟩
  obtain ⟨p, hp, h⟩ := key (A.length + 1)
  refine ⟨p, hp.1, hp.2.1, hp.2.2, ?_⟩
  rcases h with h | h
  · have := hp.1; omega
  · exact h

structure IsSuf (A B : List Int) (p s : Nat) : Prop where
  la : p + s ≤ A.length
  lb : p + s ≤ B.length
  eq : ∀ t, t < s → nth A (A.length - 1 - t) = nth B (B.length - 1 - t)
  stop : s < A.length - p → s < B.length - p → ¬ nth A (A.length - 1 - s) = nth B (B.length - 1 - s)

theorem exists_suf {A B : List Int} {p : Nat} (hp : IsPre A B p) : ∃ s, IsSuf A B p s := by
  have h1 := hp.la
  have h2 := hp.lb
  have key : ∀ k, ∃ s, (p + s ≤ A.length ∧ p + s ≤ B.length ∧ ∀ t, t < s → nth A (A.length - 1 - t) = nth B (B.length - 1 - t)) ∧ (s = k ∨ (s < A.length - p → s < B.length - p → ¬ nth A (A.length - 1 - s) = nth B (B.length - 1 - s))) := by
    intro k
    induction k with
    | zero => exact ⟨0, ⟨by omega, by omega, fun t ht => by omega⟩, Or.inl rfl⟩
    | succ k ih =>
      obtain ⟨s, hs, h⟩ := ih
      rcases h with rfl | h
      · by_cases g : s < A.length - p ∧ s < B.length - p ∧ nth A (A.length - 1 - s) = nth B (B.length - 1 - s)
        · refine ⟨s + 1, ⟨by omega, by omega, fun t ht => ?_⟩, Or.inl rfl⟩
          by_cases e : t = s
          · subst e; exact g.2.2
          · exact hs.2.2 t (by omega)
        · exact ⟨s, hs, Or.inr (fun h1 h2 h3 => g ⟨h1, h2, h3⟩)⟩
      · exact ⟨s, hs, Or.inr h⟩
  obtain ⟨s, hs, h⟩ := key (A.length + 1)
  refine ⟨s, hs.1, hs.2.1, hs.2.2, ?_⟩
  rcases h with h | h
  · have := hs.1; omega
  · exact h

/-- The numbers of the middles agree where the lines do. -/
structure Mid (A B na nb : List Int) (p s : Nat) : Prop where
  la : p + na.length + s = A.length
  lb : p + nb.length + s = B.length
  eq : ∀ i j, i < na.length → j < nb.length → (nth na i = nth nb j ↔ nth A (p + i) = nth B (p + j))

theorem mid_EI {A B na nb : List Int} {p s : Nat} (h : Mid A B na nb p s) : ∀ i j, i < na.length → j < nb.length → EI A B (p + i) (p + j) = EI na nb i j := by
  intro i j hi hj
  have h1 := h.la
  have h2 := h.lb
  have h3 := h.eq i j hi hj
  by_cases e : nth na i = nth nb j
  · rw [EI_mk hi hj e, EI_mk (by omega) (by omega) (h3.1 e)]
  · rw [EI_not e, EI_not (fun e' => e (h3.2 e'))]

theorem mid_pre {A B : List Int} {p : Nat} (hp : IsPre A B p) : ∀ t, t < p → EI A B t t = true := fun t ht =>
  EI_mk (by have := hp.la; omega) (by have := hp.lb; omega) (hp.eq t ht)

theorem mid_suf {A B na nb : List Int} {p s : Nat} (hs : IsSuf A B p s) (h : Mid A B na nb p s) : ∀ t, t < s → EI A B (p + na.length + t) (p + nb.length + t) = true := by
  intro t ht
  have h1 := h.la
  have h2 := h.lb
  refine EI_mk (by omega) (by omega) ?_
  have := hs.eq (s - 1 - t) (by omega)
  rw [show A.length - 1 - (s - 1 - t) = p + na.length + t by omega, show B.length - 1 - (s - 1 - t) = p + nb.length + t by omega] at this
  exact this

theorem mid_D {A B na nb : List Int} {p s : Nat} (hp : IsPre A B p) (hs : IsSuf A B p s) (h : Mid A B na nb p s) : Plain.D (EI A B) A.length B.length = Plain.D (EI na nb) na.length nb.length := by
  have h1 := h.la
  have h2 := h.lb
  have hL : Plain.Lc (EI A B) A.length B.length = Plain.Lc (EI na nb) na.length nb.length + p + s := by
    have e1 := Plain.Lc_suf (p + na.length) (p + nb.length) s (mid_suf hs h)
    rw [h1, h2] at e1
    rw [e1, Plain.Lc_pre p (mid_pre hp) na.length nb.length, Plain.Lc_congr (E := fun a b => EI A B (p + a) (p + b)) (E' := EI na nb) (mid_EI h) _ _ (Nat.le_refl _) (Nat.le_refl _)]
  unfold Plain.D
  rw [hL]
  omega

/-- The script of the whole, out of the middle's. -/
def join (p s : Nat) (mid : List Int) : List Int := List.replicate p 0 ++ mid ++ List.replicate s 0

theorem mid_path {A B na nb mid : List Int} {p s c : Nat} (hp : IsPre A B p) (hs : IsSuf A B p s) (h : Mid A B na nb p s) (hm : Plain.Path (EI na nb) na.length nb.length mid 0 0 c) : Plain.Path (EI A B) A.length B.length (join p s mid) 0 0 c := by
  have h1 := h.la
  have h2 := h.lb
  unfold join
  rw [List.append_assoc]
  refine Plain.path_sames p (by omega) (by omega) (fun t ht => by rw [Nat.zero_add]; exact mid_pre hp t ht) ?_
  rw [Nat.zero_add]
  have ht : Plain.Path (EI A B) A.length B.length (List.replicate s 0) (p + na.length) (p + nb.length) 0 := by
    have := Plain.path_sames (E := EI A B) (n := A.length) (m := B.length) s (r := []) (i := p + na.length) (j := p + nb.length) (c := 0) (by omega) (by omega) (mid_suf hs h) ⟨by omega, by omega, rfl⟩
    simpa using this
  have := Plain.path_part (E := EI A B) (E' := EI na nb) (n := A.length) (m := B.length) (p := p) (by omega) (by omega) (fun i j hi hj he => by rw [mid_EI h i j hi hj]; exact he) ht hm
  simpa using this

end Go.Proofs.Qxb6605460a
