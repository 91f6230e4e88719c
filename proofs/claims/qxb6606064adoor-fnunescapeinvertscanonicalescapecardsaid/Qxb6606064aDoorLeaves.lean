/-
  The seat b6606064aD: the leaves: zzCopyBytes (F6), zzEqualBytes (F9), zzHexLower (F12), zzBytes (F5).
-/
import Derived.Test.Qxb6606064aDoorLaws
import Derived.Deep.QuietTactic
import Derived.WalkSmall
namespace Go.Proofs.Qxb6606064aDoor
open Go.RowKit Go.Maps

set_option maxHeartbeats 400000 in
theorem hex_any (v : Int) (w : World) (h0 : 0 ≤ v) (h1 : v < 16) : Calls Tryd.prog 12 #[.int .u8 v] w fun e w' => e = .returned (.int .u8 (Plain.hx v)) ∧ w = w' := by
  unfold Plain.hx
  by_cases h : v < 10
  · rw [if_pos h]
    go_enter Tryd.func12, Tryd.ntmps12
    go_wp2
    go_ret
    exact ⟨rfl, rfl⟩
  · rw [if_neg h]
    go_enter Tryd.func12, Tryd.ntmps12
    go_wp2
    go_ret
    exact ⟨rfl, rfl⟩

set_option maxHeartbeats 800000 in
theorem equal_any (va vb : Value) (zs : List Int) (w : World) (ha : Reads w va zs) (hb : Reads w vb zs) (hl : zs.length ≤ 4194304) :
    Calls Tryd.prog 9 #[va, vb] w fun e w' => e = .returned (.bool true) ∧ Below w.heap.size w w' := by
  have hla := ha.len
  have hlb := hb.len
  go_enter Tryd.func9, Tryd.ntmps9
  go_wp2
  go_loopw [5] (fun iv wr => ∃ k q : Nat, k ≤ zs.length ∧ iv = .int .i64 k ∧ wr = w.drewN q) (fun iv _ => zs.length - (intOf iv).toNat)
  case atStart => exact ⟨0, 0, Nat.zero_le _, rfl, rfl⟩
  case round =>
    obtain ⟨k, q, hk, rfl, rfl⟩ := hrel
    by_cases hlt : k < zs.length
    · have hia := ha.index _ k rfl hlt
      have hib := hb.index _ k rfl hlt
      have hca := ha.cell k hlt
      have hcb := hb.cell k hlt
      go_wp2
      go_quiet (fail)
      go_wp2
      go_roundw
      case rel => exact ⟨k + 1, q + nq, by omega, by go_num, by simp⟩
      case measure => simp [intOf]; omega
    · go_wp2
      go_ret
      exact ⟨rfl, below_drewN (Below.refl _ _) _⟩

theorem copy_nil (w : World) : Calls Tryd.prog 6 #[.slice none 0 0] w fun e w' => e = .returned (.slice none 0 0) ∧ w = w' := by
  have he := fun w a n c => Go.Lib.run_eql_slice_nil (P := Tryd.prog) w 22 5 a n c 0 0 Tryd.underlying22
  go_enter Tryd.func6, Tryd.ntmps6
  go_wp2
  go_ret
  exact ⟨rfl, rfl⟩

theorem copy_run {w w1 : World} {x : Addr} {n cap : Nat} {zs : List Int} (hn : zs.length = n) (hc : ∀ i, i < zs.length → w.cell? (x.add i) = some (.int .u8 (nth zs i)))
    (hown1 : w1.ownsRow w.heap.size 5 1 (.slice (some ⟨w.heap.size, 0, none⟩) n n) n (madeCells (Value.int .u8 0).cells (n * 1)).toList) (hgrow1 : w.grownBy w1 none) :
    ∃ w2, (∀ ty, (Builtin.copy_ #[22, 22] ty #[.slice (some ⟨w.heap.size, 0, none⟩) n n, .slice (some x) n cap]).run Tryd.prog w1 = .ok (goInt n) w2) ∧ Full w2 (.slice (some ⟨w.heap.size, 0, none⟩) n n) zs ∧ Below w.heap.size w w2 := by
  have hsz : Option.map (fun x => x.size) (Tryd.prog.info? 5) = some 1 := by kernel_rfl
  have hb1 : Below w.heap.size w w1 := (Below.refl _ _).grown hgrow1 (Nat.le_refl _) (fun j hj => by cases hj)
  rcases hown1.2 with ⟨h9, _⟩ | ⟨g, cap', cur, h9, hbg, hg, hnc, hcm, hcs, htake⟩
  · cases h9
  · simp only [Value.slice.injEq, Option.some.injEq, Addr.mk.injEq, true_and, and_true] at h9
    obtain ⟨rfl, rfl⟩ := h9
    have hr := fun ty => run_copy_row Tryd.prog w1 22 22 ty 5 w.heap.size 0 n n x n cap cur 5 (zs.map (Value.int .u8)) Tryd.underlying22 hsz hg (by simp [hn]) (fun j u hj => by
      rw [List.getElem?_map] at hj
      cases hq : zs[j]? with
      | none => rw [hq] at hj; cases hj
      | some z =>
        rw [hq] at hj
        obtain ⟨hlt, e⟩ := List.getElem?_eq_some_iff.1 hq
        rw [hb1.cell (block_lt (hc j hlt)), hc j hlt, nth_eq hlt, e]
        exact hj) (by simp; omega) (fun u hu => by
      obtain ⟨z, _, rfl⟩ := List.mem_map.1 hu
      rfl)
    have el : (zs.map (Value.int .u8)).length = n := by simp [hn]
    have ed : cur.toList.drop (0 + n) = [] := List.drop_eq_nil_of_le (by simp; omega)
    simp only [el, ed, List.take_zero, List.nil_append, List.append_nil] at hr
    refine ⟨_, hr, ⟨⟨w.heap.size, 0, none⟩, by rw [hn], fun i hi => ?_⟩, below_setRow hb1 (Nat.le_refl _) _⟩
    rw [Addr.add_lit]
    unfold World.cell?
    rw [setRow_heap w1 w.heap.size cur _ 5 _ hg]
    simp [nth, List.getD, List.getElem?_eq_getElem hi]

set_option maxHeartbeats 800000 in
theorem copy_some (x : Addr) (n cap : Nat) (zs : List Int) (w : World) (hn : zs.length = n) (hmax : n ≤ 1048576)
    (hc : ∀ i, i < zs.length → w.cell? (x.add i) = some (.int .u8 (nth zs i))) :
    Calls Tryd.prog 6 #[.slice (some x) n cap] w fun e w' => ∃ v, e = .returned v ∧ Full w' v zs ∧ Below w.heap.size w w' := by
  have he := fun w a n c => Go.Lib.run_eql_slice_nil (P := Tryd.prog) w 22 5 a n c 0 0 Tryd.underlying22
  obtain ⟨i0, hi, hz0, hz1, hz2⟩ := info_parts Tryd.info5
  go_enter Tryd.func6, Tryd.ntmps6
  go_wp2_with (at_make; refine wpList_make_full _ rfl _ _ 22 rfl w.heap.size 5 i0 (.int .u8 0) 1 Tryd.underlying22 hi hz0 hz1 _ _ _ _ n rfl rfl rfl rfl (by rw [hz2]; omega) (by unfold maxLen; omega) (Nat.le_refl _) ?_; intro w1 hown1 hgrow1; obtain ⟨w2, hcp, hf2, hb2⟩ := copy_run (cap := cap) hn hc hown1 hgrow1)
  go_ret
  exact ⟨_, rfl, hf2, hb2⟩

/-- A slice of bytes that came in. -/
def RowIn (w : World) (a : Option Addr) (n cap : Nat) (zs : List Int) : Prop :=
  (a = none ∧ n = 0 ∧ cap = 0 ∧ zs = []) ∨ ∃ x, a = some x ∧ n ≤ cap ∧ cap ≤ maxLen ∧ zs.length = cap ∧ (∀ i, i < zs.length → w.cell? (x.add i) = some (.int .u8 (zs.getD i 0))) ∧ ∀ z ∈ zs, (Lit.int .u8 z).wf = true

theorem RowIn.later {w w' : World} {a : Option Addr} {n cap : Nat} {zs : List Int} (h : RowIn w a n cap zs) (hb : Below w.heap.size w w') : RowIn w' a n cap zs := by
  rcases h with h | ⟨x, h1, h2, h3, h4, h5, h6⟩
  · exact Or.inl h
  · refine Or.inr ⟨x, h1, h2, h3, h4, fun i hi => ?_, h6⟩
    rw [hb.cell (block_lt (h5 i hi))]
    exact h5 i hi

theorem RowIn.max {w : World} {a : Option Addr} {n cap : Nat} {zs : List Int} (h : RowIn w a n cap zs) : n ≤ 9223372036854775807 ∧ (zs.take n).length = n := by
  rcases h with ⟨rfl, rfl, rfl, rfl⟩ | ⟨x, rfl, hnc, hcm, hl, _⟩
  · simp
  · unfold maxLen at hcm; simp; omega

theorem copy_any (a : Option Addr) (n cap : Nat) (zs : List Int) (w : World) (hmax : n ≤ 1048576) (h : RowIn w a n cap zs) :
    Calls Tryd.prog 6 #[.slice a n cap] w fun e w' => ∃ v, e = .returned v ∧ (∀ B, Src w' B v (zs.take n)) ∧ Below w.heap.size w w' := by
  rcases h with ⟨rfl, rfl, rfl, rfl⟩ | ⟨x, rfl, hnc, hcm, hl, hc, hwf⟩
  · refine (copy_nil w).mono ?_
    rintro e w' ⟨rfl, rfl⟩
    exact ⟨_, rfl, fun B => ⟨Or.inl (World.ownsInts_nil _ _ _ _), by simp⟩, Below.refl _ _⟩
  · have el : (zs.take n).length = n := by simp; omega
    refine (copy_some x n cap (zs.take n) w el hmax (fun i hi => ?_)).mono ?_
    · rw [hc i (by omega)]
      simp only [nth, List.getD, List.getElem?_take]
      rw [if_pos (by omega)]
    · rintro e w' ⟨v, rfl, hf, hb⟩
      exact ⟨_, rfl, fun B => ⟨Or.inr hf, fun z hz => hwf z (List.mem_of_mem_take hz)⟩, hb⟩

/-- The bound on the total length: it answers, and where true the two are short. -/
theorem small_any (a1 a2 : Option Addr) (n1 c1 n2 c2 : Nat) (w : World) (h1 : n1 ≤ 9223372036854775807) (h2 : n2 ≤ 9223372036854775807) :
    Calls Tryd.prog 5 #[.slice a1 n1 c1, .slice a2 n2 c2] w fun e w' => e = .returned (.bool (decide (n1 ≤ 1048576 ∧ n1 + n2 ≤ 1048576))) ∧ w = w' := by
  by_cases g1 : n1 ≤ 1048576
  · by_cases g2 : n2 ≤ 1048576
    · by_cases g3 : n1 + n2 ≤ 1048576
      · have ed : decide (n1 ≤ 1048576 ∧ n1 + n2 ≤ 1048576) = true := by simp; omega
        rw [ed]
        have k1 : ¬ ((n1 : Int) > 1048576) := by omega
        have k2 : ¬ ((n2 : Int) > 1048576) := by omega
        have k3 : ¬ ((n1 : Int) + n2 > 1048576) := by omega
        go_enter Tryd.func5, Tryd.ntmps5
        go_wp2
        go_ret
        exact ⟨rfl, rfl⟩
      · have ed : decide (n1 ≤ 1048576 ∧ n1 + n2 ≤ 1048576) = false := by simp; omega
        rw [ed]
        have k1 : ¬ ((n1 : Int) > 1048576) := by omega
        have k2 : ¬ ((n2 : Int) > 1048576) := by omega
        have k3 : ((n1 : Int) + n2 > 1048576) := by omega
        go_enter Tryd.func5, Tryd.ntmps5
        go_wp2
        go_ret
        exact ⟨rfl, rfl⟩
    · have ed : decide (n1 ≤ 1048576 ∧ n1 + n2 ≤ 1048576) = false := by simp; omega
      rw [ed]
      have k1 : ¬ ((n1 : Int) > 1048576) := by omega
      have k2 : ((n2 : Int) > 1048576) := by omega
      go_enter Tryd.func5, Tryd.ntmps5
      go_wp2
      go_ret
      exact ⟨rfl, rfl⟩
  · have ed : decide (n1 ≤ 1048576 ∧ n1 + n2 ≤ 1048576) = false := by simp; omega
    rw [ed]
    have k1 : ((n1 : Int) > 1048576) := by omega
    go_enter Tryd.func5, Tryd.ntmps5
    go_wp2
    go_ret
    exact ⟨rfl, rfl⟩

end Go.Proofs.Qxb6606064aDoor
