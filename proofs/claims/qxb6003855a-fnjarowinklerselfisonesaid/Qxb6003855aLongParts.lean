/-
  The seat b6003855a: matchLong: the lemmas outside the walk.
-/
import Derived.Test.Qxb6003855aMaps
import Derived.Test.Qxb6003855aOut
import Derived.Test.Qxb6003855aCopy
namespace Go.Proofs.Qxb6003855a
open Go.RowKit Go.Maps

/-- The places of r among the first k of B, as numbers of Go. -/
def plc (B : List Int) (k : Nat) (r : Int) : List Int := (Plain.placesTo B k r).map (fun (j : Nat) => (j : Int))

theorem plc_len (B : List Int) (k : Nat) (r : Int) : (plc B k r).length ≤ k := by
  unfold plc Plain.placesTo
  have := List.length_filter_le (fun j => B.getD j 0 == r) (List.range k)
  simpa using this

theorem plc_step (B : List Int) (k : Nat) : (fun y => if y = nth B k then plc B k (nth B k) ++ [(k : Int)] else plc B k y) = plc B (k + 1) := by
  funext y
  unfold plc nth
  rw [Plain.placesTo_succ]
  by_cases h : y = B.getD k 0
  · subst h; rw [if_pos rfl, if_pos rfl]; simp
  · rw [if_neg h, if_neg (fun e => h e.symm)]

/-- Go's max, behind a name that the walk does not open. -/
def imax (a b : Int) : Int := if b > a then b else a
theorem run_imax {P : Program} {w : World} (ts : Array TypeId) (t : TypeId) (k k' : IntKind) (x y : Int) : (Builtin.max_ ts t #[.int k x, .int k' y]).run P w = .ok (.int k (imax x y)) w := run_max_int2 (P := P) (w := w) ts t k k' x y

theorem imax_win (n m : Nat) : imax (imax (n : Int) (m : Int) / 2 - 1) 0 = ((Plain.win n m : Nat) : Int) := by
  unfold imax Plain.win
  split <;> split <;> omega
theorem imax_bd (n m : Nat) (hn : n ≤ 1048576) (hm : m ≤ 1048576) : 0 ≤ imax (n : Int) (m : Int) ∧ imax (n : Int) (m : Int) ≤ 1048576 := by
  unfold imax; split <;> omega

theorem wf_nth {w : World} {base : Nat} {e : TypeId} {q : IntKind} {v : Value} {zs : List Int} (h : w.ownsInts base e q v zs) (k : Nat) (hk : k < zs.length) : (Lit.int q (nth zs k)).wf = true := by
  have : nth zs k = zs[k] := by simp [nth, List.getD, List.getElem?_eq_getElem hk]
  rw [this]
  exact h.2 _ (List.getElem_mem hk)

theorem plc_all (B : List Int) (r : Int) : plc B B.length r = (Plain.places B r).map (fun (j : Nat) => (j : Int)) := rfl

theorem nth_plc (B : List Int) (r : Int) (k : Nat) : nth (plc B B.length r) k = (((Plain.places B r).getD k 0 : Nat) : Int) := by
  rw [plc_all]
  unfold nth
  simp only [List.getD, List.getElem?_map]
  cases (Plain.places B r)[k]? <;> rfl

theorem loc_of {v' v : Value} {m n : Nat} (h : v'.ownBlock = v.ownBlock ∨ v'.ownBlock = some m) (hm : n ≤ m) : v'.ownBlock = v.ownBlock ∨ ∃ g, v'.ownBlock = some g ∧ n ≤ g := by
  rcases h with h | h
  · exact Or.inl h
  · exact Or.inr ⟨_, h, hm⟩

/-- What holds of the memory at the head of each round of the second loop, but for 'next': N: the block of 'next'; N + 1: the row of 'matched'; Z: the box of 'matched'. -/
def R2 (W1 : World) (N Z : Nat) (vm : Value) (mt : List Bool) (inA : List Int) (vi : Value) (wr : World) : Prop :=
  wr.ownsRow (N + 1) 4 1 vm mt.length (mt.map Value.bool) ∧ wr.heap[Z]? = some (.cells #[vm] 33 (0, 0)) ∧ wr.ownsInts (Z + 1) 21 .i32 vi inA ∧ Below N W1 wr ∧ Z + 1 ≤ wr.heap.size

theorem R2_drewN {W1 : World} {N Z : Nat} {vm : Value} {mt : List Bool} {inA : List Int} {vi : Value} {wr : World} (h : R2 W1 N Z vm mt inA vi wr) (n : Nat) : R2 W1 N Z vm mt inA vi (wr.drewN n) :=
  ⟨h.1, h.2.1, ⟨h.2.2.1.1, h.2.2.1.2⟩, h.2.2.2.1.trans ⟨rfl, rfl, rfl, Nat.le_refl _, fun _ _ => rfl⟩, h.2.2.2.2⟩

theorem MF.kept {w w' : World} {b n : Nat} {f : Int → Int} {row : Option Nat} (h : MF w b n f) (hg : w.grownBy w' row) (hne : some b ≠ row) : MF w' b n f := by
  obtain ⟨D, h1, h2⟩ := h
  exact ⟨D, h1.kept hg hne, h2⟩

theorem R2_put {W1 : World} {N Z m : Nat} {mt : List Bool} {inA : List Int} {vi : Value} {wr w2 : World} (h : R2 W1 N Z (.slice (some ⟨N + 1, 0, none⟩) m m) mt inA vi wr) (hNZ : N + 2 ≤ Z) (hg : wr.grownBy w2 (some N)) :
    R2 W1 N Z (.slice (some ⟨N + 1, 0, none⟩) m m) mt inA vi w2 := by
  obtain ⟨h1, h2, h3, h4, h5⟩ := h
  refine ⟨h1.kept hg (Or.inr (by simp [Value.ownBlock])), (hg.block Z (by omega) (by simp; omega)).trans h2, h3.kept hg ?_, h4.grown hg (by omega) (fun k hk => by cases hk; exact Nat.le_refl _), Nat.le_trans h5 hg.size⟩
  cases hv : vi.ownBlock with
  | none => exact Or.inl rfl
  | some g => have := (h3.1.lt g hv).1; exact Or.inr (by simp; omega)

theorem R2_hit {W1 : World} {N Z m : Nat} {mt : List Bool} {inA : List Int} {vi : Value} {wr : World} (h : R2 W1 N Z (.slice (some ⟨N + 1, 0, none⟩) m m) mt inA vi wr) (hm : m = mt.length) (hNZ : N + 2 ≤ Z) (j : Nat) :
    R2 W1 N Z (.slice (some ⟨N + 1, 0, none⟩) m m) (mt.set j true) inA vi (wr.setCell ⟨N + 1, j, none⟩ (.bool true)) ∧ wr.grownBy (wr.setCell ⟨N + 1, j, none⟩ (.bool true)) (some (N + 1)) := by
  obtain ⟨h1, h2, h3, h4, h5⟩ := h
  subst hm
  obtain ⟨g1, hg⟩ := h1.stored j (.bool true)
  refine ⟨⟨by rw [List.map_set, List.length_set]; exact g1, (hg.block Z (by omega) (by simp; omega)).trans h2, h3.kept hg ?_, h4.grown hg (by omega) (fun k hk => by cases hk; exact Nat.le_succ _), Nat.le_trans h5 hg.size⟩, hg⟩
  cases hv : vi.ownBlock with
  | none => exact Or.inl rfl
  | some g => have := (h3.1.lt g hv).1; exact Or.inr (by simp; omega)

theorem R2_append {W1 : World} {N Z m : Nat} {mt : List Bool} {inA : List Int} {vi vi' : Value} {wr w1 : World} {o : Obj} {r : Int} (h : R2 W1 N Z (.slice (some ⟨N + 1, 0, none⟩) m m) mt inA vi wr) (hNZ : N + 2 ≤ Z)
    (hown' : w1.ownsRow (Z + 1) 21 1 vi' (inA.length + 1) (inA.map (Value.int .i32) ++ [.int .i32 r])) (hg : (wr.alloc o).grownBy w1 vi.ownBlock) (hr : (Lit.int .i32 r).wf = true) :
    R2 W1 N Z (.slice (some ⟨N + 1, 0, none⟩) m m) mt (inA ++ [r]) vi' w1 ∧ wr.grownBy w1 vi.ownBlock ∧ some N ≠ vi.ownBlock := by
  obtain ⟨h1, h2, h3, h4, h5⟩ := h
  have hall := (World.grownBy_alloc wr o _).trans hg
  have hb : ∀ g, vi.ownBlock = some g → Z + 1 ≤ g := fun g hv => (h3.1.lt g hv).1
  refine ⟨⟨h1.kept hall (Or.inr ?_), (hall.block Z (by omega) ?_).trans h2, h3.appended hown' hr, h4.grown hall (by omega) (fun k hk => by have := hb k hk; omega), Nat.le_trans h5 hall.size⟩, hall, ?_⟩
  · intro e
    have := hb (N + 1) (by rw [← e]; rfl)
    omega
  · intro e
    have := hb Z e.symm
    omega
  · intro e
    have := hb N e.symm
    omega

theorem L2_start {W1 w3 : World} {n : Nat} {mt : List Bool} (hl : mt.length = n) (hown : w3.ownsRow (W1.heap.size + 1) 4 1 (.slice (some ⟨W1.heap.size + 1, 0, none⟩) n n) n (mt.map Value.bool)) (hg : (W1.alloc (.map #[] 0)).grownBy w3 none) :
    W1.heap.size + 2 ≤ w3.heap.size ∧ MF (w3.alloc (.cells #[.slice (some ⟨W1.heap.size + 1, 0, none⟩) n n] 33)) W1.heap.size 0 (fun _ => 0) ∧
    R2 W1 W1.heap.size w3.heap.size (.slice (some ⟨W1.heap.size + 1, 0, none⟩) n n) mt [] (.slice none 0 0) (w3.alloc (.cells #[.slice (some ⟨W1.heap.size + 1, 0, none⟩) n n] 33)) := by
  subst hl
  have hsz := (hown.lt (W1.heap.size + 1) rfl).2
  refine ⟨hsz, ((MF_made W1).kept hg (by simp)).kept (World.grownBy_alloc w3 _ none) (by simp), hown.alloc _, heap_alloc_new w3 _, World.ownsInts_nil _ _ _ _, ?_, by simp⟩
  exact (((Below.refl _ _).alloc (Nat.le_refl _) _).grown hg (by simp) (fun k hk => by cases hk)).alloc (by omega) _

/-- The cursor, in the walk's words. -/
def curs (B : List Int) (r : Int) (lo : Int) (k : Nat) : Nat := Plain.adv (Plain.places B r) lo k

theorem curs_go {B : List Int} {r lo : Int} {k : Nat} (h : k < (plc B B.length r).length) (hl : nth (plc B B.length r) k < lo) : curs B r lo (k + 1) = curs B r lo k := by
  rw [nth_plc] at hl
  have h' : k < (Plain.places B r).length := by simpa [plc_all] using h
  rw [Plain.getD_of_lt h'] at hl
  exact (Plain.adv_step _ _ _ h' hl).symm

theorem curs_stop {B : List Int} {r lo : Int} {k : Nat} (h : k < (plc B B.length r).length) (hl : lo ≤ nth (plc B B.length r) k) : curs B r lo k = k := by
  rw [nth_plc] at hl
  have h' : k < (Plain.places B r).length := by simpa [plc_all] using h
  rw [Plain.getD_of_lt h'] at hl
  exact Plain.adv_stop _ _ _ (fun _ => hl)

theorem curs_end {B : List Int} {r lo : Int} {k : Nat} (h : (plc B B.length r).length ≤ k) : curs B r lo k = k := by
  have h' : (Plain.places B r).length ≤ k := by simpa [plc_all] using h
  exact Plain.adv_stop _ _ _ (fun hk => by omega)

theorem lto_hit {A B : List Int} {i k wn : Nat} (hw : wn = Plain.win A.length B.length) (hc : curs B (nth A i) ((i : Int) - wn) ((Plain.lto A B i).nx (nth A i)) = k) (h1 : k < (plc B B.length (nth A i)).length) (h2 : nth (plc B B.length (nth A i)) k ≤ (i : Int) + wn) :
    (Plain.lto A B (i + 1)).inA = (Plain.lto A B i).inA ++ [nth A i] ∧ (Plain.lto A B (i + 1)).mt = (Plain.lto A B i).mt.set (nth (plc B B.length (nth A i)) k).toNat true ∧
    (fun r => ((Plain.lto A B (i + 1)).nx r : Int)) = fun y => if y = nth A i then (k : Int) + 1 else ((Plain.lto A B i).nx y : Int) := by
  subst hw
  have hc' : Plain.cur B (Plain.win A.length B.length) i (A.getD i 0) (Plain.lto A B i) = k := hc
  have h1' : k < (Plain.places B (A.getD i 0)).length := by rw [plc_all, List.length_map] at h1; exact h1
  rw [nth_plc] at h2 ⊢
  have hh : Plain.hit B (Plain.win A.length B.length) i (A.getD i 0) k = true := by
    unfold Plain.hit
    simp only [Bool.and_eq_true, decide_eq_true_eq]
    refine ⟨h1', ?_⟩
    have : (((Plain.places B (A.getD i 0)).getD k 0 : Nat) : Int) ≤ (i : Int) + (Plain.win A.length B.length : Nat) := h2
    omega
  have e : Plain.lto A B (i + 1) = Plain.lstep B (Plain.win A.length B.length) i (A.getD i 0) (Plain.lto A B i) := rfl
  rw [e]
  unfold Plain.lstep
  rw [hc', if_pos hh]
  refine ⟨rfl, by simp [nth], ?_⟩
  funext y
  show ((if y = A.getD i 0 then k + 1 else (Plain.lto A B i).nx y : Nat) : Int) = if y = A.getD i 0 then (k : Int) + 1 else ((Plain.lto A B i).nx y : Int)
  split <;> simp

theorem lto_miss {A B : List Int} {i k wn : Nat} (hw : wn = Plain.win A.length B.length) (hc : curs B (nth A i) ((i : Int) - wn) ((Plain.lto A B i).nx (nth A i)) = k) (h : (plc B B.length (nth A i)).length ≤ k ∨ (i : Int) + wn < nth (plc B B.length (nth A i)) k) :
    (Plain.lto A B (i + 1)).inA = (Plain.lto A B i).inA ∧ (Plain.lto A B (i + 1)).mt = (Plain.lto A B i).mt ∧
    (fun r => ((Plain.lto A B (i + 1)).nx r : Int)) = fun y => if y = nth A i then (k : Int) else ((Plain.lto A B i).nx y : Int) := by
  subst hw
  have hc' : Plain.cur B (Plain.win A.length B.length) i (A.getD i 0) (Plain.lto A B i) = k := hc
  have hh : ¬ Plain.hit B (Plain.win A.length B.length) i (A.getD i 0) k = true := by
    unfold Plain.hit
    simp only [Bool.and_eq_true, decide_eq_true_eq]
    intro ⟨g1, g2⟩
    rcases h with h | h
    · rw [plc_all] at h
      simp [nth] at h
      have := List.getD_eq_getElem?_getD (l := A) (i := i) (a := 0)
      rw [this] at g1
      omega
    · rw [nth_plc] at h
      have : (i : Int) + (Plain.win A.length B.length : Nat) < (((Plain.places B (A.getD i 0)).getD k 0 : Nat) : Int) := h
      omega
  have e : Plain.lto A B (i + 1) = Plain.lstep B (Plain.win A.length B.length) i (A.getD i 0) (Plain.lto A B i) := rfl
  rw [e]
  unfold Plain.lstep
  rw [hc', if_neg hh]
  refine ⟨rfl, rfl, ?_⟩
  funext y
  show ((if y = A.getD i 0 then k else (Plain.lto A B i).nx y : Nat) : Int) = if y = A.getD i 0 then (k : Int) else ((Plain.lto A B i).nx y : Int)
  split <;> simp

/-- A place is a place of b. -/
theorem plc_at {B : List Int} {r : Int} {k : Nat} (h : k < (plc B B.length r).length) : 0 ≤ nth (plc B B.length r) k ∧ nth (plc B B.length r) k < B.length := by
  rw [nth_plc]
  have h' : k < (Plain.places B r).length := by simpa [plc_all] using h
  rw [Plain.getD_of_lt h']
  have := (Plain.places_at h').1
  omega

theorem nx_le {A B : List Int} (i : Nat) (r : Int) : (Plain.lto A B i).nx r ≤ (plc B B.length r).length := by
  have := ((Plain.agree A B i).1.2 r).1
  simpa [plc_all] using this

end Go.Proofs.Qxb6003855a
