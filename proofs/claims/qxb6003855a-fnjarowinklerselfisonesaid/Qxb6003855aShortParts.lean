/-
  The seat b6003855a: matchShort: the lemmas outside the walk.
-/
import Derived.Test.Qxb6003855aLongParts
import Derived.Test.Qxb6003855aBits
namespace Go.Proofs.Qxb6003855a
open Go.RowKit Go.Maps

/-- Go's min, behind a name that the walk does not open. -/
def imin (a b : Int) : Int := if b < a then b else a
theorem run_imin {P : Program} {w : World} (ts : Array TypeId) (t : TypeId) (k k' : IntKind) (x y : Int) : (Builtin.min_ ts t #[.int k x, .int k' y]).run P w = .ok (.int k (imin x y)) w := run_min_int2 (P := P) (w := w) ts t k k' x y
theorem lt_imin {j a b : Int} : j < imin a b ↔ j < a ∧ j < b := by unfold imin; split <;> omega

/-- The array of 64, the first of them inA. -/
def pad (inA : List Int) : List Value := inA.map (Value.int .i32) ++ List.replicate (64 - inA.length) (.int .i32 0)

theorem pad_len (inA : List Int) (h : inA.length ≤ 64) : (pad inA).length = 64 := by unfold pad; simp; omega

theorem pad_set (inA : List Int) (r : Int) (h : inA.length < 64) : (pad inA).set inA.length (.int .i32 r) = pad (inA ++ [r]) := by
  unfold pad
  rw [List.set_append_right _ _ (by simp), List.length_map, Nat.sub_self]
  have e : 64 - inA.length = (64 - (inA ++ [r]).length) + 1 := by simp; omega
  rw [e, List.replicate_succ, List.set_cons_zero]
  simp

/-- What holds of the memory in matchShort: X: the word; X + 1: the array. -/
def S2 (w : World) (mt : List Bool) (inA : List Int) (wr : World) : Prop :=
  wr.heap[w.heap.size]? = some (.cells #[.int .u64 (mkv mt)] 36 (0, 0)) ∧ wr.ownsRow (w.heap.size + 1) 37 1 (.slice (some ⟨w.heap.size + 1, 0, none⟩) 64 64) 64 (pad inA) ∧ Below w.heap.size w wr

theorem S2_drewN {w wr : World} {mt : List Bool} {inA : List Int} (h : S2 w mt inA wr) (n : Nat) : S2 w mt inA (wr.drewN n) :=
  ⟨h.1, h.2.1, h.2.2.trans ⟨rfl, rfl, rfl, Nat.le_refl _, fun _ _ => rfl⟩⟩

theorem S2_hit {w wr : World} {mt mt' : List Bool} {inA : List Int} {r : Int} (h : S2 w mt inA wr) (hl : inA.length < 64) :
    S2 w mt' (inA ++ [r]) ((wr.setCell ⟨w.heap.size, 0, none⟩ (.int .u64 (mkv mt'))).setCell ⟨w.heap.size + 1, inA.length, none⟩ (.int .i32 r)) := by
  obtain ⟨h1, h2, h3⟩ := h
  have g1 : (wr.setCell ⟨w.heap.size, 0, none⟩ (.int .u64 (mkv mt'))).heap[w.heap.size]? = some (.cells #[.int .u64 (mkv mt')] 36 (0, 0)) := one_setCell h1
  have g2 := ownsRow_setCell_below h2 (a := ⟨w.heap.size, 0, none⟩) (Nat.lt_succ_self _) (.int .u64 (mkv mt'))
  obtain ⟨g3, hg⟩ := g2.stored inA.length (.int .i32 r)
  rw [pad_set inA r hl] at g3
  refine ⟨(Below.heap_setCell _ _ _ _ (by simp)).trans g1, g3, ?_⟩
  exact (h3.setCell (p := ⟨w.heap.size, 0, none⟩) (Nat.le_refl _) _).setCell (p := ⟨w.heap.size + 1, inA.length, none⟩) (Nat.le_succ _) _

theorem S2_start (w : World) (n : Nat) (cs : Array Value) (hcs : cs.toList = List.replicate 64 (.int .i32 0)) :
    S2 w (List.replicate n false) [] ((w.alloc (.cells #[.int .u64 0] 36)).alloc (.cells cs 37)) := by
  have e0 : mkv (List.replicate n false) = 0 := by unfold mkv; rw [maskOf_zero]; rfl
  have esz : (w.alloc (.cells #[.int .u64 0] 36)).heap.size = w.heap.size + 1 := by simp
  have hsz : cs.size = 64 * 1 := by rw [← Array.length_toList, hcs]; simp
  refine ⟨?_, ?_, ?_⟩
  · rw [e0, Below.heap_alloc _ _ _ (by simp)]
    exact heap_alloc_new w _
  · have := World.ownsRow_lit (base := w.heap.size + 1) (e := 37) (size := 1) (w.alloc (.cells #[.int .u64 0] 36)) cs 64 (by simp) (by unfold maxLen; omega) hsz
    rw [esz, hcs] at this
    simpa [pad] using this
  · exact ((Below.refl _ _).alloc (Nat.le_refl _) _).alloc (by simp) _

/-- The cut of the array is a slice that owns inA. -/
theorem S2_cut {w wr : World} {mt : List Bool} {inA : List Int} (h : S2 w mt inA wr) (hl : inA.length ≤ 64) (hwf : ∀ z ∈ inA, (Lit.int .i32 z).wf = true) :
    wr.ownsInts (w.heap.size + 1) 37 .i32 (.slice (some ⟨w.heap.size + 1, 0, none⟩) inA.length 64) inA := by
  obtain ⟨_, h2, _⟩ := h
  refine ⟨⟨by simp, Or.inr ?_⟩, hwf⟩
  rcases h2.2 with ⟨h', _⟩ | ⟨g, cap, cur, h', hg, hh, _, hcm, hcs, ht⟩
  · simp at h'
  · simp only [Value.slice.injEq, Option.some.injEq, Addr.mk.injEq, and_true, true_and] at h'
    obtain ⟨rfl, rfl⟩ := h'
    refine ⟨_, 64, cur, rfl, hg, hh, hl, hcm, hcs, ?_⟩
    have e : cur.toList = pad inA := by rw [← ht, List.take_of_length_le (by rw [Array.length_toList]; omega)]
    rw [e]
    unfold pad
    rw [List.take_append_of_le_length (by simp), Nat.mul_one, List.take_of_length_le (by simp)]

/-- May the place j be taken? -/
def cand (B : List Int) (mt : List Bool) (wn i : Nat) (r : Int) (j : Nat) : Bool :=
  decide (i ≤ j + wn) && (decide (j ≤ i + wn) && (B.getD j 0 == r && !mt.getD j false))

theorem cand_of {B : List Int} {mt : List Bool} {wn i j : Nat} {r : Int} (h1 : (i : Int) - wn ≤ j) (h2 : (j : Int) < (i : Int) + wn + 1) (h3 : nth B j = r) (h4 : bth mt j = false) : cand B mt wn i r j = true := by
  unfold nth at h3; unfold bth at h4
  unfold cand
  rw [h3, h4]
  simp; omega
theorem not_cand_ne {B : List Int} {mt : List Bool} {wn i j : Nat} {r : Int} (h3 : ¬ nth B j = r) : cand B mt wn i r j = false := by
  unfold nth at h3
  unfold cand
  have : (B.getD j 0 == r) = false := by simpa using h3
  rw [this]; simp
theorem not_cand_taken {B : List Int} {mt : List Bool} {wn i j : Nat} {r : Int} (h4 : bth mt j = true) : cand B mt wn i r j = false := by
  unfold bth at h4
  unfold cand
  rw [h4]; simp
theorem not_cand_early {B : List Int} {mt : List Bool} {wn i j : Nat} {r : Int} (h : (j : Int) < (i : Int) - wn) : cand B mt wn i r j = false := by
  unfold cand
  have : decide (i ≤ j + wn) = false := by simp; omega
  rw [this]; simp
theorem not_cand_late {B : List Int} {mt : List Bool} {wn i j : Nat} {r : Int} (h : (i : Int) + wn + 1 ≤ j) : cand B mt wn i r j = false := by
  unfold cand
  have : decide (j ≤ i + wn) = false := by simp; omega
  rw [this]; simp

/-- No place ahead of j may be taken. -/
def noneTo (B : List Int) (mt : List Bool) (wn i : Nat) (r : Int) (j : Nat) : Prop := ∀ x, x < j → cand B mt wn i r x = false

theorem noneTo_step {B : List Int} {mt : List Bool} {wn i j : Nat} {r : Int} (h : noneTo B mt wn i r j) (hc : cand B mt wn i r j = false) : noneTo B mt wn i r (j + 1) := by
  intro x hx
  by_cases e : x = j
  · subst e; exact hc
  · exact h x (by omega)

theorem sto_hit {A B : List Int} {i j wn : Nat} (hw : wn = Plain.win A.length B.length) (h : noneTo B (Plain.sto A B i).2 wn i (nth A i) j) (hj : j < B.length) (hc : cand B (Plain.sto A B i).2 wn i (nth A i) j = true) :
    Plain.sto A B (i + 1) = ((Plain.sto A B i).1 ++ [nth A i], (Plain.sto A B i).2.set j true) := by
  subst hw
  have e : Plain.sfind B (Plain.sto A B i).2 (Plain.win A.length B.length) i (A.getD i 0) = some j := Plain.find_range_some hj hc h
  show Plain.sstep B (Plain.win A.length B.length) i (A.getD i 0) (Plain.sto A B i) = _
  unfold Plain.sstep
  rw [e]
  rfl

theorem sto_miss {A B : List Int} {i j wn : Nat} (hw : wn = Plain.win A.length B.length) (h : noneTo B (Plain.sto A B i).2 wn i (nth A i) j) (hj : B.length ≤ j ∨ (i : Int) + wn + 1 ≤ j) :
    Plain.sto A B (i + 1) = Plain.sto A B i := by
  subst hw
  have e : Plain.sfind B (Plain.sto A B i).2 (Plain.win A.length B.length) i (A.getD i 0) = none := by
    unfold Plain.sfind
    rw [List.find?_eq_none]
    intro x hx
    have hx' : x < B.length := by simpa using hx
    have : cand B (Plain.sto A B i).2 (Plain.win A.length B.length) i (nth A i) x = false := by
      rcases Nat.lt_or_ge x j with h1 | h1
      · exact h x h1
      · rcases hj with h2 | h2
        · omega
        · exact not_cand_late (by omega)
    intro hp
    unfold cand nth at this
    rw [hp] at this
    cases this
  show Plain.sstep B (Plain.win A.length B.length) i (A.getD i 0) (Plain.sto A B i) = _
  unfold Plain.sstep
  rw [e]

theorem sto_wf {A B : List Int} {i : Nat} (hi : i ≤ A.length) (h : ∀ z ∈ A, (Lit.int .i32 z).wf = true) : ∀ z ∈ (Plain.sto A B i).1, (Lit.int .i32 z).wf = true := by
  induction i with
  | zero => intro z hz; simp [Plain.sto] at hz
  | succ i ih =>
    have hstep : (Plain.sto A B (i + 1)).1 = (Plain.sto A B i).1 ∨ (Plain.sto A B (i + 1)).1 = (Plain.sto A B i).1 ++ [A.getD i 0] := by
      show (Plain.sstep B (Plain.win A.length B.length) i (A.getD i 0) (Plain.sto A B i)).1 = _ ∨ (Plain.sstep B (Plain.win A.length B.length) i (A.getD i 0) (Plain.sto A B i)).1 = _
      unfold Plain.sstep
      cases Plain.sfind B (Plain.sto A B i).2 (Plain.win A.length B.length) i (A.getD i 0) with
      | none => exact Or.inl rfl
      | some j => exact Or.inr rfl
    intro z hz
    rcases hstep with e | e
    · rw [e] at hz; exact ih (by omega) z hz
    · rw [e] at hz
      rcases List.mem_append.1 hz with h1 | h1
      · exact ih (by omega) z h1
      · have e2 : z = A.getD i 0 := by simpa using h1
        rw [e2]
        have e3 : A.getD i 0 = A[i] := by simp [List.getD, List.getElem?_eq_getElem (show i < A.length by omega)]
        rw [e3]
        exact h _ (List.getElem_mem _)

theorem sto_facts (A B : List Int) (i : Nat) : (Plain.sto A B i).2.length = B.length ∧ (Plain.sto A B i).1.length = Plain.cnt (Plain.sto A B i).2 ∧ (Plain.sto A B i).1.length ≤ B.length := by
  rw [(Plain.agree A B i).2]
  exact ⟨Plain.lto_mt_len A B i, Plain.inA_cnt A B i, Plain.inA_le_b A B i⟩

/-- Before a hit there is room. -/
theorem room_of {mt : List Bool} {j n : Nat} (hj : j < mt.length) (h : bth mt j = false) (hn : n = Plain.cnt mt) : n < mt.length := by
  have h1 := Plain.cnt_set mt j hj h
  have h2 : Plain.cnt (mt.set j true) ≤ (mt.set j true).length := List.length_filter_le _ _
  rw [List.length_set] at h2
  omega

theorem arr37 : Try.prog.underlying 37 = some (.array 64 21) := by kernel_rfl

/-- 'inA[:m]'. -/
theorem cut_eq (a : Addr) (m : Nat) (hm : m ≤ 64) (w : World) : (Instr.sliceAt 37 (.pointer (some a)) none (some (.int .i64 (m : Int))) none).run Try.prog w = .ok (.slice (some a) m 64) w := by
  have hm' : (m : Int) ≤ 64 := by omega
  simp [Instr.sliceAt, Instr.sureAddr, run_underlying arr37, Instr.sliceBounds, run_sliceBound, Addr.add_zero', hm', Result.andThen]

end Go.Proofs.Qxb6003855a
