/-
  The seat b6605460a: zzDiffCopyStrings (F10): a fresh copy, nil stays nil.
-/
import Derived.Test.Qxb6605460aSLaws
import Derived.WalkSpells
import Derived.Lib.SliceRun
namespace Go.Proofs.Qxb6605460a
open Go.RowKit Go.Maps

theorem Try.info9 : (Try.prog.info? 9).map (fun i => (i.zero, i.size, i.bytes)) = some (some (.string ⟨#[]⟩), 1, 16) := by kernel_rfl

/-- What the copy holds after k rounds. -/
def scp (zs : List ByteArray) (n k : Nat) : List Value := (zs.take k).map (Value.string) ++ List.replicate (n - k) (.string ⟨#[]⟩)

theorem scp_step (zs : List ByteArray) (n k : Nat) (hk : k < n) (hn : n ≤ zs.length) : (scp zs n k).set k (.string (sth zs k)) = scp zs n (k + 1) := by
  unfold scp
  have hl : ((zs.take k).map (Value.string)).length = k := by simp; omega
  rw [List.set_append_right _ _ (by omega), hl]
  have e : n - k = (n - (k + 1)) + 1 := by omega
  rw [e, List.replicate_succ, Nat.sub_self, List.set_cons_zero, List.take_succ_eq_append_getElem (by omega), List.map_append, List.append_assoc]
  simp only [sth, List.getD, List.getElem?_eq_getElem (show k < zs.length by omega), Option.getD_some, List.map_cons, List.map_nil, List.cons_append, List.nil_append]

theorem scp_start (zs : List ByteArray) (n : Nat) : scp zs n 0 = List.replicate n (.string ⟨#[]⟩) := by simp [scp]
theorem scp_end (zs : List ByteArray) (n : Nat) : scp zs n n = (zs.take n).map (Value.string) := by simp [scp]

theorem scopy_nil (w : World) : Calls Try.prog 10 #[.slice none 0 0] w fun e w' => e = .returned (.slice none 0 0) ∧ w = w' := by
  have he := fun w a n c => Go.Lib.run_eql_slice_nil (P := Try.prog) w 28 9 a n c 0 0 Try.underlying28
  go_enter Try.func10, Try.ntmps10
  go_wp2
  go_ret
  exact ⟨rfl, rfl⟩

set_option maxHeartbeats 800000 in
theorem scopy_some (x : Addr) (n cap : Nat) (zs : List ByteArray) (w : World) (hn : n ≤ zs.length) (hmax : n ≤ 1048576)
    (hc : ∀ i, i < zs.length → w.cell? (x.add i) = some (.string (sth zs i))) :
    Calls Try.prog 10 #[.slice (some x) n cap] w fun e w' => e = .returned (.slice (some ⟨w.heap.size, 0, none⟩) n n) ∧
      w'.ownsRow w.heap.size 9 1 (.slice (some ⟨w.heap.size, 0, none⟩) n n) n ((zs.take n).map (Value.string)) ∧ Below w.heap.size w w' := by
  have he := fun w a n c => Go.Lib.run_eql_slice_nil (P := Try.prog) w 28 9 a n c 0 0 Try.underlying28
  obtain ⟨i0, hi, hz0, hz1, hz2⟩ := info_parts Try.info9
  go_enter Try.func10, Try.ntmps10
  go_wp2_with (at_make; refine wpList_make_full _ rfl _ _ 28 rfl w.heap.size 9 i0 (.string ⟨#[]⟩) 1 Try.underlying28 hi hz0 hz1 _ _ _ _ n rfl rfl rfl rfl (by rw [hz2]; omega) (by unfold maxLen; omega) (Nat.le_refl _) ?_; intro w1 hown1 hgrow1)
  rw [made_one _ rfl, ← scp_start zs] at hown1
  have hb1 : Below w.heap.size w w1 := (Below.refl _ _).grown hgrow1 (Nat.le_refl _) (fun j hj => by cases hj)
  clear hgrow1
  go_loopw [4] (fun i wr => ∃ k : Nat, k ≤ n ∧ i = .int .i64 k ∧ wr.ownsRow w.heap.size 9 1 (.slice (some ⟨w.heap.size, 0, none⟩) n n) n (scp zs n k) ∧ Below w.heap.size w wr) (fun i _ => n - (intOf i).toNat)
  case atStart => exact ⟨0, Nat.zero_le _, rfl, hown1, hb1⟩
  case round =>
    clear hown1 hb1
    obtain ⟨k, hk, rfl, hown, hnx⟩ := hrel
    by_cases hlt : k < n
    · have hcx : wr.cell? (x.add k) = some (.string (sth zs k)) := by
        rw [hnx.cell (by have := block_lt (hc k (by omega)); exact this)]
        exact hc k (by omega)
      have hfz : wr.frozen? ⟨w.heap.size, k, none⟩ = false := hown.frozenAt k
      have hcl : ∃ u, wr.cell? ⟨w.heap.size, k, none⟩ = some u := ⟨(scp zs n k)[k]'(by simp [scp]; omega), by rw [hown.cellAt k (by omega)]; simp⟩
      obtain ⟨u, hu⟩ := hcl
      obtain ⟨hst, hgr⟩ := hown.stored k (.string (sth zs k))
      rw [scp_step zs n k hlt hn] at hst
      have hb2 := hnx.grown hgr hnx.size (fun j hj => by cases hj; exact Nat.le_refl _)
      go_wp2
      go_roundw
      case rel => exact ⟨k + 1, by omega, by go_num, hst, hb2⟩
      case measure => simp [intOf]; omega
    · have hk' : k = n := by omega
      subst hk'
      rw [scp_end] at hown
      go_wp2
      go_ret
      exact ⟨rfl, hown, hnx⟩


/-- A slice of strings that came in. -/
def RowS (w : World) (a : Option Addr) (n cap : Nat) (zs : List ByteArray) : Prop :=
  (a = none ∧ n = 0 ∧ cap = 0 ∧ zs = []) ∨ ∃ x, a = some x ∧ n ≤ cap ∧ cap ≤ maxLen ∧ zs.length = cap ∧ (∀ i, i < zs.length → w.cell? (x.add i) = some (.string (sth zs i)))

theorem RowS.later {w w' : World} {a : Option Addr} {n cap : Nat} {zs : List ByteArray} (h : RowS w a n cap zs) (hb : Below w.heap.size w w') : RowS w' a n cap zs := by
  rcases h with h | ⟨x, h1, h2, h3, h4, h5⟩
  · exact Or.inl h
  · refine Or.inr ⟨x, h1, h2, h3, h4, fun i hi => ?_⟩
    rw [hb.cell (block_lt (h5 i hi))]
    exact h5 i hi

theorem RowS.max {w : World} {a : Option Addr} {n cap : Nat} {zs : List ByteArray} (h : RowS w a n cap zs) : n ≤ 9223372036854775807 ∧ (zs.take n).length = n := by
  rcases h with ⟨rfl, rfl, rfl, rfl⟩ | ⟨x, rfl, hnc, hcm, hl, _⟩
  · simp
  · unfold maxLen at hcm; simp; omega

/-- What came in, read as numbers. -/
theorem RowS.sc {w : World} {a : Option Addr} {n cap : Nat} {zs : List ByteArray} (h : RowS w a n cap zs) : SC w (.slice a n cap) (cs (zs.take n)) := by
  have hm := h.max
  rcases h with ⟨rfl, rfl, rfl, rfl⟩ | ⟨x, rfl, hnc, hcm, hl, h5⟩
  · exact Or.inl ⟨rfl, rfl⟩
  · have e : (cs (zs.take n)).length = n := by rw [cs_len]; exact hm.2
    refine Or.inr ⟨x, cap, by rw [e], by rw [e]; exact hnc, fun i hi => ?_⟩
    rw [e] at hi
    refine ⟨sth zs i, h5 i (by omega), ?_⟩
    rw [cs_at (by rw [hm.2]; exact hi)]
    congr 1
    simp only [sth, List.getD, List.getElem?_take]
    rw [if_pos hi]

theorem scopy_any (a : Option Addr) (n cap : Nat) (zs : List ByteArray) (w : World) (hmax : n ≤ 1048576) (h : RowS w a n cap zs) :
    Calls Try.prog 10 #[.slice a n cap] w fun e w' => ∃ v, e = .returned v ∧ SC w' v (cs (zs.take n)) ∧ Below w.heap.size w w' := by
  have hm := h.max
  rcases h with ⟨rfl, rfl, rfl, rfl⟩ | ⟨x, rfl, hnc, hcm, hl, hc⟩
  · refine (scopy_nil w).mono ?_
    rintro e w' ⟨rfl, rfl⟩
    exact ⟨_, rfl, Or.inl ⟨rfl, rfl⟩, Below.refl _ _⟩
  · refine (scopy_some x n cap zs w (by omega) hmax hc).mono ?_
    rintro e w' ⟨rfl, ho, hb⟩
    have e : (cs (zs.take n)).length = n := by rw [cs_len]; exact hm.2
    refine ⟨_, rfl, Or.inr ⟨⟨w.heap.size, 0, none⟩, n, by rw [e], by rw [e]; exact Nat.le_refl _, fun i hi => ?_⟩, hb⟩
    rw [e] at hi
    have hi2 : i < (zs.take n).length := by rw [hm.2]; exact hi
    refine ⟨sth (zs.take n) i, ?_, ?_⟩
    · rw [Addr.add_lit, Nat.zero_add, ho.cellAt i (by omega), List.getElem?_map, List.getElem?_eq_getElem hi2, sth_eq hi2]
      rfl
    · rw [cs_at hi2]

end Go.Proofs.Qxb6605460a
