/-
  The seat b6605460a: zzDiffCopyInts: a fresh copy, nil stays nil.
-/
import Derived.Test.Qxb6605460aLaws
import Derived.WalkSpells
import Derived.Lib.SliceRun
namespace Go.Proofs.Qxb6605460a
open Go.RowKit Go.Maps

/-- What the copy holds after k rounds. -/
def cp (zs : List Int) (n k : Nat) : List Value := (zs.take k).map (Value.int .i64) ++ List.replicate (n - k) (.int .i64 0)

theorem cp_step (zs : List Int) (n k : Nat) (hk : k < n) (hn : n ≤ zs.length) : (cp zs n k).set k (.int .i64 (nth zs k)) = cp zs n (k + 1) := by
  unfold cp
  have hl : ((zs.take k).map (Value.int .i64)).length = k := by simp; omega
  rw [List.set_append_right _ _ (by omega), hl]
  have e : n - k = (n - (k + 1)) + 1 := by omega
  rw [e, List.replicate_succ, Nat.sub_self, List.set_cons_zero, List.take_succ_eq_append_getElem (by omega), List.map_append, List.append_assoc]
  simp only [nth, List.getD, List.getElem?_eq_getElem (show k < zs.length by omega), Option.getD_some, List.map_cons, List.map_nil, List.cons_append, List.nil_append]

theorem cp_start (zs : List Int) (n : Nat) : cp zs n 0 = List.replicate n (.int .i64 0) := by simp [cp]
theorem cp_end (zs : List Int) (n : Nat) : cp zs n n = (zs.take n).map (Value.int .i64) := by simp [cp]

theorem copy_nil (w : World) : Calls Try.prog 6 #[.slice none 0 0] w fun e w' => e = .returned (.slice none 0 0) ∧ w' = w := by
  have he := fun w a n c => Go.Lib.run_eql_slice_nil (P := Try.prog) w 22 3 a n c 0 0 Try.underlying22
  go_enter Try.func6, Try.ntmps6
  go_wp2
  go_ret
  exact ⟨rfl, rfl⟩

set_option maxHeartbeats 800000 in
theorem copy_some (x : Addr) (n cap : Nat) (zs : List Int) (w : World) (hn : n ≤ zs.length) (hmax : n ≤ 1048576)
    (hc : ∀ i, i < zs.length → w.cell? (x.add i) = some (.int .i64 (nth zs i))) :
    Calls Try.prog 6 #[.slice (some x) n cap] w fun e w' => e = .returned (.slice (some ⟨w.heap.size, 0, none⟩) n n) ∧
      w'.ownsRow w.heap.size 3 1 (.slice (some ⟨w.heap.size, 0, none⟩) n n) n ((zs.take n).map (Value.int .i64)) ∧ Below w.heap.size w w' := by
  have he := fun w a n c => Go.Lib.run_eql_slice_nil (P := Try.prog) w 22 3 a n c 0 0 Try.underlying22
  obtain ⟨i0, hi, hz0, hz1, hz2⟩ := info_parts Try.info3
  go_enter Try.func6, Try.ntmps6
  go_wp2_with (at_make; refine wpList_make_full _ rfl _ _ 22 rfl w.heap.size 3 i0 (.int .i64 0) 1 Try.underlying22 hi hz0 hz1 _ _ _ _ n rfl rfl rfl rfl (by rw [hz2]; omega) (by unfold maxLen; omega) (Nat.le_refl _) ?_; intro w1 hown1 hgrow1)
  rw [made_one _ rfl, ← cp_start zs] at hown1
  have hb1 : Below w.heap.size w w1 := (Below.refl _ _).grown hgrow1 (Nat.le_refl _) (fun j hj => by cases hj)
  clear hgrow1
  go_loopw [4] (fun i wr => ∃ k : Nat, k ≤ n ∧ i = .int .i64 k ∧ wr.ownsRow w.heap.size 3 1 (.slice (some ⟨w.heap.size, 0, none⟩) n n) n (cp zs n k) ∧ Below w.heap.size w wr) (fun i _ => n - (intOf i).toNat)
  case atStart => exact ⟨0, Nat.zero_le _, rfl, hown1, hb1⟩
  case round =>
    clear hown1 hb1
    obtain ⟨k, hk, rfl, hown, hnx⟩ := hrel
    by_cases hlt : k < n
    · have hcx : wr.cell? (x.add k) = some (.int .i64 (nth zs k)) := by
        rw [hnx.cell (by have := block_lt (hc k (by omega)); exact this)]
        exact hc k (by omega)
      have hfz : wr.frozen? ⟨w.heap.size, k, none⟩ = false := hown.frozenAt k
      have hcl : ∃ u, wr.cell? ⟨w.heap.size, k, none⟩ = some u := ⟨(cp zs n k)[k]'(by simp [cp]; omega), by rw [hown.cellAt k (by omega)]; simp⟩
      obtain ⟨u, hu⟩ := hcl
      obtain ⟨hst, hgr⟩ := hown.stored k (.int .i64 (nth zs k))
      rw [cp_step zs n k hlt hn] at hst
      have hb2 := hnx.grown hgr hnx.size (fun j hj => by cases hj; exact Nat.le_refl _)
      go_wp2
      go_roundw
      case rel => exact ⟨k + 1, by omega, by go_num, hst, hb2⟩
      case measure => simp [intOf]; omega
    · have hk' : k = n := by omega
      subst hk'
      rw [cp_end] at hown
      go_wp2
      go_ret
      exact ⟨rfl, hown, hnx⟩

/-- A slice of ints that came in. -/
def RowIn (w : World) (a : Option Addr) (n cap : Nat) (zs : List Int) : Prop :=
  (a = none ∧ n = 0 ∧ cap = 0 ∧ zs = []) ∨ ∃ x, a = some x ∧ n ≤ cap ∧ cap ≤ maxLen ∧ zs.length = cap ∧ (∀ i, i < zs.length → w.cell? (x.add i) = some (.int .i64 (zs.getD i 0))) ∧ ∀ z ∈ zs, (Lit.int .i64 z).wf = true

theorem RowIn.later {w w' : World} {a : Option Addr} {n cap : Nat} {zs : List Int} (h : RowIn w a n cap zs) (hb : Below w.heap.size w w') : RowIn w' a n cap zs := by
  rcases h with h | ⟨x, h1, h2, h3, h4, h5, h6⟩
  · exact Or.inl h
  · refine Or.inr ⟨x, h1, h2, h3, h4, fun i hi => ?_, h6⟩
    rw [hb.cell (block_lt (h5 i hi))]
    exact h5 i hi

theorem RowIn.max {w : World} {a : Option Addr} {n cap : Nat} {zs : List Int} (h : RowIn w a n cap zs) : n ≤ 9223372036854775807 ∧ (zs.take n).length = n := by
  rcases h with ⟨rfl, rfl, rfl, rfl⟩ | ⟨x, rfl, hnc, hcm, hl, _⟩
  · simp
  · unfold maxLen at hcm; simp; omega

/-- A copy, whatever came in: a slice of the call's own that holds the elements. -/
theorem copy_any (a : Option Addr) (n cap : Nat) (zs : List Int) (w : World) (hmax : n ≤ 1048576) (h : RowIn w a n cap zs) :
    Calls Try.prog 6 #[.slice a n cap] w fun e w' => ∃ v, e = .returned v ∧ w'.ownsInts w.heap.size 3 .i64 v (zs.take n) ∧ Below w.heap.size w w' := by
  rcases h with ⟨rfl, rfl, rfl, rfl⟩ | ⟨x, rfl, hnc, hcm, hl, hc, hwf⟩
  · refine (copy_nil w).mono ?_
    rintro e w' ⟨rfl, rfl⟩
    exact ⟨_, rfl, World.ownsInts_nil _ _ _ _, Below.refl _ _⟩
  · refine (copy_some x n cap zs w (by omega) hmax hc).mono ?_
    rintro e w' ⟨rfl, ho, hb⟩
    refine ⟨_, rfl, ⟨?_, fun z hz => hwf z (List.mem_of_mem_take hz)⟩, hb⟩
    rw [List.length_take, Nat.min_eq_left (by omega)]
    exact ho

end Go.Proofs.Qxb6605460a
