/-
  The seat b6605460a: backtrack (F20).
-/
import Derived.Test.Qxb6605460aBackParts
namespace Go.Proofs.Qxb6605460a
open Go.RowKit Go.Maps

/-- The number in the box that a pointer leads to. -/
def dOf (v : Value) (w : World) : Nat :=
  match v with
  | .pointer (some a) => (intOf ((w.cell? a).getD undef)).toNat
  | _ => 0
theorem dOf_eq {w : World} {db d : Nat} (h : w.heap[db]? = some (.cells #[.int .i64 d] 3 (0, 0))) : dOf (.pointer (some ⟨db, 0, none⟩)) w = d := by
  show (intOf ((w.cell? ⟨db, 0, none⟩).getD undef)).toNat = d
  rw [cell_of_one h]
  simp [intOf]

theorem int_eq {k : IntKind} {a b : Int} (h : a = b) : Value.int k a = .int k b := by rw [h]

/-- Behind an append to rev: the box stays. -/
theorem box_kept {w1 w2 : World} {o : Obj} {b1 db : Nat} {v : Value} {n : Nat} {xs : List Value} {x : Value} (hr : w1.ownsRow b1 39 1 v n xs) (h : w1.heap[db]? = some (.cells #[x] 3 (0, 0))) (hg : (w1.alloc o).grownBy w2 v.ownBlock) : w2.heap[db]? = some (.cells #[x] 3 (0, 0)) := by
  have hlt : db < w1.heap.size := lt_of_block h
  rw [hg.block db (by simp; omega) (tag_block hr h (by decide)), Below.heap_alloc _ _ _ hlt]
  exact h
theorem below_app {B : Nat} {w wr w1 : World} {base : Nat} {e : TypeId} {v : Value} {n : Nat} {xs : List Value} (h : Below B w wr) (ho : wr.ownsRow base e 1 v n xs) (hB : B ≤ base) (hs : B ≤ wr.heap.size) (o : Obj) (hg : (wr.alloc o).grownBy w1 v.ownBlock) : Below B w w1 :=
  (h.alloc hs o).grown hg (by simp; omega) (fun k hk => Nat.le_trans hB (ho.lt k hk).1)

/-- The row of the trace, as the walk meets it. -/
theorem row_shape {w : World} {base : Nat} {x : Value} {row : List Int} (h : w.ownsInts base 3 .i64 x row) (hl : 0 < row.length) : ∃ g cap, x = .slice (some ⟨g, 0, none⟩) row.length cap := by
  rcases h.1.2 with ⟨_, h0⟩ | ⟨g, cap, cur, rfl, _⟩
  · omega
  · exact ⟨g, cap, rfl⟩

set_option maxHeartbeats 8000000 in
set_option maxRecDepth 100000 in
theorem back_any (E : Nat → Nat → Bool) (vt : Value) (rows : List (List Int)) (n m : Nat) (w : World) {base : Nat} (hE : ∀ i j, E i j = true → i < n ∧ j < m)
    (ht : TR w base vt rows) (hrows : RowsOK E rows) (hdist : (rows.length : Int) = Plain.D E n m) (hfr : Plain.FR E rows.length ((n : Int) - m) n) (hn : n ≤ 4096) (hm : m ≤ 4096) (hdm : rows.length ≤ 1000) :
    Calls Try.prog 20 #[vt, .int .i64 n, .int .i64 m] w fun e w' => ∃ v ops, e = .returned v ∧ w'.ownsInts w.heap.size 39 .i64 v ops ∧ Plain.Path E n m ops 0 0 rows.length ∧ Below w.heap.size w w' := by
  obtain ⟨i0, hi0, hz0, hz1, hz2⟩ := info_parts Try.info39
  have hlt0 : ∀ (ty : TypeId) (w' : World), (Builtin.len_ #[40] ty #[vt]).run Try.prog w' = .ok (goInt rows.length) w' := by
    obtain ⟨vs, h1, _⟩ := ht
    exact len_eq (P := Try.prog) h1 40 Try.sl40
  have hpar0 : ((rows.length : Int) - ((n : Int) - m)) % 2 = 0 := by rw [hdist]; exact Plain.D_parity E n m
  have HFR : Hid (Plain.FR E rows.length ((n : Int) - m) n) := hfr
  have HROWS : Hid (RowsOK E rows) := hrows
  have HE : Hid (∀ i j, E i j = true → i < n ∧ j < m) := hE
  clear hfr hrows hdist hE
  go_enter Try.func20, Try.ntmps20
  go_wp2
  go_loopw [7, 8, 9, 10] (fun rv iv jv dv wr => ∃ (d i j db : Nat) (rev : List Int), d ≤ rows.length ∧ iv = .int .i64 i ∧ jv = .int .i64 j ∧ dv = .pointer (some ⟨db, 0, none⟩) ∧ wr.heap[db]? = some (.cells #[.int .i64 d] 3 (0, 0)) ∧ w.heap.size ≤ db ∧
      wr.ownsInts w.heap.size 39 .i64 rv rev ∧ Hid (Plain.FR E d ((i : Int) - j) i) ∧ Hid (((d : Int) - ((i : Int) - j)) % 2 = 0) ∧ Hid (Plain.Path E n m rev.reverse i j (rows.length - d)) ∧ Below w.heap.size w wr) (fun _ _ _ dv wr => dOf dv wr)
  case atStart => exact ⟨rows.length, n, m, w.heap.size, [], Nat.le_refl _, rfl, rfl, rfl, heap_alloc_new w _, Nat.le_refl _, World.ownsInts_nil _ _ _ _, HFR, hpar0, by rw [Nat.sub_self]; exact ⟨rfl, rfl, rfl⟩, (Below.refl _ _).alloc (Nat.le_refl _) _⟩
  case round =>
    clear HFR hpar0
    obtain ⟨d, i, j, db, rev, hd, rfl, rfl, rfl, hdb, hdb0, hrev, HF, HPAR, HP, hnx⟩ := hrel
    have hpl := Plain.path_len HP.out
    rw [List.length_reverse] at hpl
    have hi := hpl.1
    have hj := hpl.2.1
    have hrl : rev.length ≤ n + m := by omega
    clear hpl
    have hdc : wr.cell? ⟨db, 0, none⟩ = some (.int .i64 d) := cell_of_one hdb
    have HM : Hid (dOf (.pointer (some ⟨db, 0, none⟩)) wr = d) := dOf_eq hdb
    have hsz := hnx.size
    by_cases hd0 : 0 < d
    · have hk1 : -(d : Int) ≤ (i : Int) - j := by
        have h1 := HF.out.2.1
        have h2 := (Plain.D_ge E i (Plain.col ((i : Int) - j) i)).2.1
        have h3 : Plain.col ((i : Int) - j) i = j := by unfold Plain.col; omega
        rw [h3] at h1 h2
        omega
      have hk2 : (i : Int) - j ≤ d := by
        have h1 := HF.out.2.1
        have h2 := (Plain.D_ge E i (Plain.col ((i : Int) - j) i)).1
        have h3 : Plain.col ((i : Int) - j) i = j := by unfold Plain.col; omega
        rw [h3] at h1 h2
        omega
      have hpar := HPAR.out
      have ht' := ht.later hnx
      have hixt : ∀ (w' : World), (Instr.indexAt 40 vt (.int .i64 ((d : Int) - 1))).run Try.prog w' = .ok (.pointer (some ⟨blk vt, d - 1, none⟩)) w' := by
        obtain ⟨vs, h1, _⟩ := ht'
        exact index_at h1 40 Try.sl40 Try.ce40 ((d : Int) - 1) (d - 1) (by omega) (by omega)
      obtain ⟨x, hxc, hxo⟩ := ht'.at (t := d - 1) (by omega)
      obtain ⟨hrl1, hrl2⟩ := HROWS.out (d - 1) (by omega)
      clear ht'
      generalize rows.getD (d - 1) [] = row at hxo hrl1 hrl2
      obtain ⟨g, cap, rfl⟩ := row_shape hxo (by omega)
      have HROW : Hid (∀ s, s ≤ d - 1 → ∃ i' : Nat, nth row s = (i' : Int) ∧ Plain.FR E ((d : Int) - 1) (-((d : Int) - 1) + 2 * s) i') := by
        intro s hs
        obtain ⟨i', h1, h2⟩ := hrl2 s hs
        have e1 : ((d - 1 : Nat) : Int) = (d : Int) - 1 := by omega
        rw [e1] at h2
        exact ⟨i', h1, h2⟩
      have HCL : Hid (∀ (k : Int) (s : Nat), k + d - 1 = 2 * (s : Int) → s < row.length → -4096 ≤ k → k ≤ 4096 → Calls Try.prog 22 #[.int .i64 k, .pointer (some ⟨wr.heap.size, 0, none⟩), .pointer (some ⟨db, 0, none⟩)] (wr.alloc (.cells #[.slice (some ⟨g, 0, none⟩) row.length cap] 22)) fun e w' => e = .returned (.int .i64 (nth row s)) ∧ (wr.alloc (.cells #[.slice (some ⟨g, 0, none⟩) row.length cap] 22)) = w') := by
        intro k s h1 h2 h3 h4
        exact clos22 wr.heap.size db _ row d s k _ (hxo.alloc _) (by simp) (by rw [World.cell?_of_block (w := wr) (Below.heap_alloc wr _ _ (lt_of_block hdb))]; exact hdc) h1 h2 (by omega) h3 h4
      have hdb' : (wr.alloc (.cells #[.slice (some ⟨g, 0, none⟩) row.length cap] 22)).heap[db]? = some (.cells #[.int .i64 d] 3 (0, 0)) := (Below.heap_alloc wr _ _ (lt_of_block hdb)).trans hdb
      have hdlt := lt_of_block hdb
      have hrla : d ≤ row.length := by omega
      have hrlb : row.length ≤ d := by omega
      clear hrl1 hrl2 hxo
      by_cases hka : (i : Int) - j = -(d : Int)
      · -- k = -d
        obtain ⟨xp, hxp, hfp⟩ := HROW.out 0 (by omega)
        have hsp : (i : Int) - j + 1 + d - 1 = 2 * ((0 : Nat) : Int) := by omega
        have HFX : Hid (Plain.FR E ((d : Int) - 1) ((i : Int) - j + 1) xp) := by
          have e : -((d : Int) - 1) + 2 * ((0 : Nat) : Int) = (i : Int) - j + 1 := by omega
          rw [e] at hfp; exact hfp
        have hsl := slide_back HE.out (d := d) (k := (i : Int) - j) (xm := 0) (xp := xp) (by omega) hk1 hk2 (fun h => absurd hka h) (fun _ => HFX.out) HF.out
        have hff : Plain.fromI d ((i : Int) - j) 0 xp = xp := by unfold Plain.fromI; rw [if_pos (Or.inl hka)]
        rw [hff] at hsl
        have hfi := hsl.1
        have HS : Hid (∀ t, xp ≤ t → t < i → E t (Plain.col ((i : Int) - j) t) = true) := hsl.2
        have HSP : Hid ((i : Int) - j + 1 + d - 1 = 2 * ((0 : Nat) : Int)) := hsp
        have hqs : ((i : Int) - j == -(d : Int)) = true := by rw [hka]; simp
        have hkl : (i : Int) - j ≤ -(d : Int) := by omega
        clear hsl hff hfp hsp hka
        go_wp2_with (go_at_call 22; refine Calls.mono (HCL.out ((i : Int) - j + 1) 0 HSP.out (by omega) (by omega) (by omega)) ?_; rw [hxp]; rintro e w' ⟨rfl, rfl⟩)
        clear hxp
        clear hixt hxc hdc hqs hdlt
        obtain ⟨wo, rfl⟩ : ∃ wo : World, wo = wr := ⟨_, rfl⟩
        go_loopw [7, 8, 9] (fun rv iv jv wr => ∃ (t tj : Nat) (rev2 : List Int), xp ≤ t ∧ t ≤ i ∧ iv = .int .i64 t ∧ jv = .int .i64 tj ∧ Hid ((tj : Int) = (t : Int) - ((i : Int) - j)) ∧ wr.ownsInts w.heap.size 39 .i64 rv rev2 ∧ Hid (Plain.Path E n m rev2.reverse t tj (rows.length - d)) ∧ wr.heap[db]? = some (.cells #[.int .i64 d] 3 (0, 0)) ∧ Below w.heap.size w wr) (fun _ iv _ _ => (intOf iv).toNat)
        case atStart => exact ⟨i, j, rev, hfi, Nat.le_refl _, rfl, rfl, (show (j : Int) = (i : Int) - ((i : Int) - j) by omega), hrev.alloc _, HP, hdb', hnx.alloc hsz _⟩
        case round =>
          clear HP hrev hrl hnx hsz hdb hdb' HCL HROW
          obtain ⟨t, tj, rev2, hft, hti, rfl, rfl, HTJ, hrev2, HP2, hdb2, hnx2⟩ := hrel
          have hpl := Plain.path_len HP2.out
          rw [List.length_reverse] at hpl
          have hrl2 : rev2.length ≤ n + m := by omega
          clear hpl
          have htj1 : (tj : Int) ≤ (t : Int) - ((i : Int) - j) := by have := HTJ.out; omega
          have htj2 : (t : Int) - ((i : Int) - j) ≤ (tj : Int) := by have := HTJ.out; omega
          have hsz2 := hnx2.size
          have hfk := HFX.out.1
          by_cases htf : xp < t
          · have HES : Hid (E (t - 1) (tj - 1) = true) := by
              have h1 := HS.out (t - 1) (by omega) (by omega)
              have h2 : Plain.col ((i : Int) - j) (t - 1) = tj - 1 := by unfold Plain.col; omega
              rw [h2] at h1
              exact h1
            have HB := HE.out _ _ HES.out
            have hb1 := HB.1
            have hb2 := HB.2
            have HPN : Hid (Plain.Path E n m (rev2 ++ [0]).reverse (t - 1) (tj - 1) (rows.length - d)) := path_rev_same hb1 hb2 HES.out (by
              have e1 : t - 1 + 1 = t := by omega
              have e2 : tj - 1 + 1 = tj := by omega
              rw [e1, e2]; exact HP2.out)
            clear HB HES
            go_wp2_with (at_builtin; refine wpList_append_own _ rfl _ _ 25 rfl w.heap.size 39 i0 (.int .i64 0) 1 8 Try.underlying25 hi0 hz0 hz1 hz2 rfl (by decide) u7 rev2.length (rev2.map (Value.int .i64)) rfl (hrev2.1.alloc _) ⟨wr.heap.size, 0, none⟩ 1 1 [.int .i64 0] rfl rfl (cell_new _ _ rfl _ _) (ints_oneCell .i64 [0]) (by unfold maxLen; omega) (by omega) (by simp; omega) ?_; intro v1 w1 hown1 hgrow1 _)
            have hr3 := hrev2.appended hown1 (by decide)
            have hdb3 := box_kept hrev2.1 hdb2 hgrow1
            have hnx3 := below_app hnx2 hrev2.1 (Nat.le_refl _) hsz2 _ hgrow1
            go_roundw
            case rel => exact ⟨t - 1, tj - 1, rev2 ++ [0], by omega, by omega, int_eq (by omega), int_eq (by omega), (show ((tj - 1 : Nat) : Int) = ((t - 1 : Nat) : Int) - ((i : Int) - j) by omega), hr3, HPN, hdb3, hnx3⟩
            case measure => simp [intOf]; omega
          · have htf' : t = xp := by omega
            have HPN : Hid (Plain.Path E n m (rev2 ++ [2]).reverse xp (tj - 1) (rows.length - (d - 1))) := by
              have e0 : rows.length - (d - 1) = (rows.length - d) + 1 := by omega
              rw [e0]
              refine path_rev_ins (by omega) ?_
              have e1 : xp = t := by omega
              have e2 : (tj - 1 + 1) = tj := by omega
              rw [e1, e2]; exact HP2.out
            have HQJ : Hid ((((tj - 1) : Nat) : Int) = (xp : Int) - ((i : Int) - j + 1)) := by
              show (((tj - 1) : Nat) : Int) = _
              omega
            have htf1 : t ≤ xp := by omega
            clear htf'
            go_wp2_with (at_builtin; refine wpList_append_own _ rfl _ _ 25 rfl w.heap.size 39 i0 (.int .i64 0) 1 8 Try.underlying25 hi0 hz0 hz1 hz2 rfl (by decide) u7 rev2.length (rev2.map (Value.int .i64)) rfl (hrev2.1.alloc _) ⟨wr.heap.size, 0, none⟩ 1 1 [.int .i64 2] rfl rfl (cell_new _ _ rfl _ _) (ints_oneCell .i64 [2]) (by unfold maxLen; omega) (by omega) (by simp; omega) ?_; intro v1 w1 hown1 hgrow1 _; have hr3 := hrev2.appended hown1 (by decide); have hdb3 := box_kept hrev2.1 hdb2 hgrow1; have hnx3 := below_app hnx2 hrev2.1 (Nat.le_refl _) hsz2 _ hgrow1; have hdc3 := cell_of_one hdb3)
            have hsz3 := hnx3.size
            go_roundw
            case rel =>
              refine ⟨d - 1, xp, (tj - 1), w1.heap.size, rev2 ++ [2], by omega, rfl, int_eq (by rw [HQJ.out]), rfl, ?_, hsz3, ?_, ?_, ?_, HPN, ?_⟩
              · have e1 : ((d - 1 : Nat) : Int) = (d : Int) - 1 := by omega
                rw [e1]; exact heap_alloc_new w1 _
              · exact hr3.alloc _
              · have e1 : ((d - 1 : Nat) : Int) = (d : Int) - 1 := by omega
                have e2 : (xp : Int) - (((tj - 1) : Nat) : Int) = (i : Int) - j + 1 := by rw [HQJ.out]; omega
                show Plain.FR E ((d - 1 : Nat) : Int) ((xp : Int) - (((tj - 1) : Nat) : Int)) xp
                rw [e1, e2]; exact HFX.out
              · show (((d - 1 : Nat) : Int) - ((xp : Int) - (((tj - 1) : Nat) : Int))) % 2 = 0
                rw [HQJ.out]
                omega
              · exact hnx3.alloc hsz3 _
            case measure =>
              have e1 : ((d - 1 : Nat) : Int) = (d : Int) - 1 := by omega
              have h1 : dOf (.pointer (some ⟨w1.heap.size, 0, none⟩)) (w1.alloc (.cells #[.int .i64 ((d : Int) - 1)] 3)) = d - 1 := by
                rw [← e1]; exact dOf_eq (heap_alloc_new w1 _)
              show dOf _ _ < dOf _ _
              rw [HM.out]
              simp only [h1] 
              omega
      · by_cases hkb : (i : Int) - j = (d : Int)
        · -- k = d
          obtain ⟨xm, hxm, hfm⟩ := HROW.out (d - 1) (by omega)
          have HSM : Hid ((i : Int) - j - 1 + d - 1 = 2 * ((d - 1 : Nat) : Int)) := by
            show (i : Int) - j - 1 + d - 1 = 2 * ((d - 1 : Nat) : Int)
            omega
          have HFX : Hid (Plain.FR E ((d : Int) - 1) ((i : Int) - j - 1) xm) := by
            have e : -((d : Int) - 1) + 2 * ((d - 1 : Nat) : Int) = (i : Int) - j - 1 := by omega
            rw [e] at hfm; exact hfm
          have hsl := slide_back HE.out (d := d) (k := (i : Int) - j) (xm := xm) (xp := 0) (by omega) hk1 hk2 (fun _ => HFX.out) (fun h => absurd hkb h) HF.out
          have hff : Plain.fromI d ((i : Int) - j) xm 0 = xm + 1 := by
            unfold Plain.fromI
            rw [if_neg (by intro h; rcases h with h | h; exact hka h; exact h.1 hkb)]
          rw [hff] at hsl
          have hfi := hsl.1
          have HS : Hid (∀ t, xm + 1 ≤ t → t < i → E t (Plain.col ((i : Int) - j) t) = true) := hsl.2
          have hqs : ((i : Int) - j == -(d : Int)) = false := by simp [hka]
          have hqs2 : ((i : Int) - j != (d : Int)) = false := by simp [hkb]
          have hkl : (d : Int) ≤ (i : Int) - j := by omega
          clear hsl hff hfm hka hkb
          go_wp2_with (go_at_call 22; refine Calls.mono (HCL.out ((i : Int) - j - 1) (d - 1) HSM.out (by omega) (by omega) (by omega)) ?_; rw [hxm]; rintro e w' ⟨rfl, rfl⟩)
          clear hxm hqs2
          clear hixt hxc hdc hqs hdlt
          obtain ⟨wo, rfl⟩ : ∃ wo : World, wo = wr := ⟨_, rfl⟩
          go_loopw [7, 8, 9] (fun rv iv jv wr => ∃ (t tj : Nat) (rev2 : List Int), (xm + 1) ≤ t ∧ t ≤ i ∧ iv = .int .i64 t ∧ jv = .int .i64 tj ∧ Hid ((tj : Int) = (t : Int) - ((i : Int) - j)) ∧ wr.ownsInts w.heap.size 39 .i64 rv rev2 ∧ Hid (Plain.Path E n m rev2.reverse t tj (rows.length - d)) ∧ wr.heap[db]? = some (.cells #[.int .i64 d] 3 (0, 0)) ∧ Below w.heap.size w wr) (fun _ iv _ _ => (intOf iv).toNat)
          case atStart => exact ⟨i, j, rev, hfi, Nat.le_refl _, rfl, rfl, (show (j : Int) = (i : Int) - ((i : Int) - j) by omega), hrev.alloc _, HP, hdb', hnx.alloc hsz _⟩
          case round =>
            clear HP hrev hrl hnx hsz hdb hdb' HCL HROW
            obtain ⟨t, tj, rev2, hft, hti, rfl, rfl, HTJ, hrev2, HP2, hdb2, hnx2⟩ := hrel
            have hpl := Plain.path_len HP2.out
            rw [List.length_reverse] at hpl
            have hrl2 : rev2.length ≤ n + m := by omega
            clear hpl
            have htj1 : (tj : Int) ≤ (t : Int) - ((i : Int) - j) := by have := HTJ.out; omega
            have htj2 : (t : Int) - ((i : Int) - j) ≤ (tj : Int) := by have := HTJ.out; omega
            have hsz2 := hnx2.size
            have hfk := HFX.out.1
            by_cases htf : (xm + 1) < t
            · have HES : Hid (E (t - 1) (tj - 1) = true) := by
                have h1 := HS.out (t - 1) (by omega) (by omega)
                have h2 : Plain.col ((i : Int) - j) (t - 1) = tj - 1 := by unfold Plain.col; omega
                rw [h2] at h1
                exact h1
              have HB := HE.out _ _ HES.out
              have hb1 := HB.1
              have hb2 := HB.2
              have HPN : Hid (Plain.Path E n m (rev2 ++ [0]).reverse (t - 1) (tj - 1) (rows.length - d)) := path_rev_same hb1 hb2 HES.out (by
                have e1 : t - 1 + 1 = t := by omega
                have e2 : tj - 1 + 1 = tj := by omega
                rw [e1, e2]; exact HP2.out)
              clear HB HES
              go_wp2_with (at_builtin; refine wpList_append_own _ rfl _ _ 25 rfl w.heap.size 39 i0 (.int .i64 0) 1 8 Try.underlying25 hi0 hz0 hz1 hz2 rfl (by decide) u7 rev2.length (rev2.map (Value.int .i64)) rfl (hrev2.1.alloc _) ⟨wr.heap.size, 0, none⟩ 1 1 [.int .i64 0] rfl rfl (cell_new _ _ rfl _ _) (ints_oneCell .i64 [0]) (by unfold maxLen; omega) (by omega) (by simp; omega) ?_; intro v1 w1 hown1 hgrow1 _)
              have hr3 := hrev2.appended hown1 (by decide)
              have hdb3 := box_kept hrev2.1 hdb2 hgrow1
              have hnx3 := below_app hnx2 hrev2.1 (Nat.le_refl _) hsz2 _ hgrow1
              go_roundw
              case rel => exact ⟨t - 1, tj - 1, rev2 ++ [0], by omega, by omega, int_eq (by omega), int_eq (by omega), (show ((tj - 1 : Nat) : Int) = ((t - 1 : Nat) : Int) - ((i : Int) - j) by omega), hr3, HPN, hdb3, hnx3⟩
              case measure => simp [intOf]; omega
            · have htf' : t = (xm + 1) := by omega
              have HPN : Hid (Plain.Path E n m (rev2 ++ [1]).reverse xm tj (rows.length - (d - 1))) := by
                have e0 : rows.length - (d - 1) = (rows.length - d) + 1 := by omega
                rw [e0]
                refine path_rev_del (by omega) ?_
                have e1 : (xm + 1) = t := by omega
                have e2 : tj = tj := by omega
                rw [e1, e2]; exact HP2.out
              have HQJ : Hid (((tj : Nat) : Int) = (xm : Int) - ((i : Int) - j - 1)) := by
                show ((tj : Nat) : Int) = _
                omega
              have htf1 : t ≤ (xm + 1) := by omega
              clear htf'
              go_wp2_with (at_builtin; refine wpList_append_own _ rfl _ _ 25 rfl w.heap.size 39 i0 (.int .i64 0) 1 8 Try.underlying25 hi0 hz0 hz1 hz2 rfl (by decide) u7 rev2.length (rev2.map (Value.int .i64)) rfl (hrev2.1.alloc _) ⟨wr.heap.size, 0, none⟩ 1 1 [.int .i64 1] rfl rfl (cell_new _ _ rfl _ _) (ints_oneCell .i64 [1]) (by unfold maxLen; omega) (by omega) (by simp; omega) ?_; intro v1 w1 hown1 hgrow1 _; have hr3 := hrev2.appended hown1 (by decide); have hdb3 := box_kept hrev2.1 hdb2 hgrow1; have hnx3 := below_app hnx2 hrev2.1 (Nat.le_refl _) hsz2 _ hgrow1; have hdc3 := cell_of_one hdb3)
              have hsz3 := hnx3.size
              go_roundw
              case rel =>
                refine ⟨d - 1, xm, tj, w1.heap.size, rev2 ++ [1], by omega, rfl, int_eq (by rw [HQJ.out]), rfl, ?_, hsz3, ?_, ?_, ?_, HPN, ?_⟩
                · have e1 : ((d - 1 : Nat) : Int) = (d : Int) - 1 := by omega
                  rw [e1]; exact heap_alloc_new w1 _
                · exact hr3.alloc _
                · have e1 : ((d - 1 : Nat) : Int) = (d : Int) - 1 := by omega
                  have e2 : (xm : Int) - ((tj : Nat) : Int) = (i : Int) - j - 1 := by rw [HQJ.out]; omega
                  show Plain.FR E ((d - 1 : Nat) : Int) ((xm : Int) - ((tj : Nat) : Int)) xm
                  rw [e1, e2]; exact HFX.out
                · show (((d - 1 : Nat) : Int) - ((xm : Int) - ((tj : Nat) : Int))) % 2 = 0
                  rw [HQJ.out]
                  omega
                · exact hnx3.alloc hsz3 _
              case measure =>
                have e1 : ((d - 1 : Nat) : Int) = (d : Int) - 1 := by omega
                have h1 : dOf (.pointer (some ⟨w1.heap.size, 0, none⟩)) (w1.alloc (.cells #[.int .i64 ((d : Int) - 1)] 3)) = d - 1 := by
                  rw [← e1]; exact dOf_eq (heap_alloc_new w1 _)
                show dOf _ _ < dOf _ _
                rw [HM.out]
                simp only [h1] 
                omega
        · obtain ⟨sm, hsm⟩ : ∃ sm : Nat, (i : Int) - j + d - 2 = 2 * (sm : Int) := ⟨(((i : Int) - j + d - 2) / 2).toNat, by omega⟩
          obtain ⟨xm, hxm, hfm⟩ := HROW.out sm (by omega)
          obtain ⟨xp, hxp, hfp⟩ := HROW.out (sm + 1) (by omega)
          have HSM : Hid ((i : Int) - j - 1 + d - 1 = 2 * (sm : Int)) := by
            show (i : Int) - j - 1 + d - 1 = 2 * (sm : Int)
            omega
          have HSP : Hid ((i : Int) - j + 1 + d - 1 = 2 * ((sm + 1 : Nat) : Int)) := by
            show (i : Int) - j + 1 + d - 1 = 2 * ((sm + 1 : Nat) : Int)
            omega
          have hFM : Plain.FR E ((d : Int) - 1) ((i : Int) - j - 1) xm := by
            have e : -((d : Int) - 1) + 2 * (sm : Int) = (i : Int) - j - 1 := by omega
            rw [e] at hfm; exact hfm
          have hFP : Plain.FR E ((d : Int) - 1) ((i : Int) - j + 1) xp := by
            have e : -((d : Int) - 1) + 2 * ((sm + 1 : Nat) : Int) = (i : Int) - j + 1 := by omega
            rw [e] at hfp; exact hfp
          have hsl := slide_back HE.out (d := d) (k := (i : Int) - j) (xm := xm) (xp := xp) (by omega) hk1 hk2 (fun _ => hFM) (fun _ => hFP) HF.out
          have hqs : ((i : Int) - j == -(d : Int)) = false := by simp [hka]
          have hqs2 : ((i : Int) - j != (d : Int)) = true := by simp [hkb]
          have hsb : sm + 1 < row.length := by omega
          have hsa : sm < row.length := by omega
          have tokA : True := trivial
          have tokB : True := trivial
          by_cases hxx : xm < xp
          · have hff : Plain.fromI d ((i : Int) - j) xm xp = xp := by unfold Plain.fromI; rw [if_pos (Or.inr ⟨hkb, hxx⟩)]
            rw [hff] at hsl
            have hfi := hsl.1
            have HS : Hid (∀ t, xp ≤ t → t < i → E t (Plain.col ((i : Int) - j) t) = true) := hsl.2
            have HFX : Hid (Plain.FR E ((d : Int) - 1) ((i : Int) - j + 1) xp) := hFP
            clear hsl hff hfm hfp hFM hFP hka hkb hsm
            go_wp2_with (first | (go_at_call 22; have _t := tokA; refine Calls.mono (HCL.out ((i : Int) - j - 1) sm HSM.out (by omega) (by omega) (by omega)) ?_; rw [hxm]; rintro e w' ⟨rfl, rfl⟩; clear tokA) | (go_at_call 22; refine Calls.mono (HCL.out ((i : Int) - j + 1) (sm + 1) HSP.out (by omega) (by omega) (by omega)) ?_; rw [hxp]; rintro e w' ⟨rfl, rfl⟩))
            clear hxm hxp hqs2 hxx hsa hsb
            clear hixt hxc hdc hqs hdlt
            obtain ⟨wo, rfl⟩ : ∃ wo : World, wo = wr := ⟨_, rfl⟩
            go_loopw [7, 8, 9] (fun rv iv jv wr => ∃ (t tj : Nat) (rev2 : List Int), xp ≤ t ∧ t ≤ i ∧ iv = .int .i64 t ∧ jv = .int .i64 tj ∧ Hid ((tj : Int) = (t : Int) - ((i : Int) - j)) ∧ wr.ownsInts w.heap.size 39 .i64 rv rev2 ∧ Hid (Plain.Path E n m rev2.reverse t tj (rows.length - d)) ∧ wr.heap[db]? = some (.cells #[.int .i64 d] 3 (0, 0)) ∧ Below w.heap.size w wr) (fun _ iv _ _ => (intOf iv).toNat)
            case atStart => exact ⟨i, j, rev, hfi, Nat.le_refl _, rfl, rfl, (show (j : Int) = (i : Int) - ((i : Int) - j) by omega), hrev.alloc _, HP, hdb', hnx.alloc hsz _⟩
            case round =>
              clear HP hrev hrl hnx hsz hdb hdb' HCL HROW
              obtain ⟨t, tj, rev2, hft, hti, rfl, rfl, HTJ, hrev2, HP2, hdb2, hnx2⟩ := hrel
              have hpl := Plain.path_len HP2.out
              rw [List.length_reverse] at hpl
              have hrl2 : rev2.length ≤ n + m := by omega
              clear hpl
              have htj1 : (tj : Int) ≤ (t : Int) - ((i : Int) - j) := by have := HTJ.out; omega
              have htj2 : (t : Int) - ((i : Int) - j) ≤ (tj : Int) := by have := HTJ.out; omega
              have hsz2 := hnx2.size
              have hfk := HFX.out.1
              by_cases htf : xp < t
              · have HES : Hid (E (t - 1) (tj - 1) = true) := by
                  have h1 := HS.out (t - 1) (by omega) (by omega)
                  have h2 : Plain.col ((i : Int) - j) (t - 1) = tj - 1 := by unfold Plain.col; omega
                  rw [h2] at h1
                  exact h1
                have HB := HE.out _ _ HES.out
                have hb1 := HB.1
                have hb2 := HB.2
                have HPN : Hid (Plain.Path E n m (rev2 ++ [0]).reverse (t - 1) (tj - 1) (rows.length - d)) := path_rev_same hb1 hb2 HES.out (by
                  have e1 : t - 1 + 1 = t := by omega
                  have e2 : tj - 1 + 1 = tj := by omega
                  rw [e1, e2]; exact HP2.out)
                clear HB HES
                go_wp2_with (at_builtin; refine wpList_append_own _ rfl _ _ 25 rfl w.heap.size 39 i0 (.int .i64 0) 1 8 Try.underlying25 hi0 hz0 hz1 hz2 rfl (by decide) u7 rev2.length (rev2.map (Value.int .i64)) rfl (hrev2.1.alloc _) ⟨wr.heap.size, 0, none⟩ 1 1 [.int .i64 0] rfl rfl (cell_new _ _ rfl _ _) (ints_oneCell .i64 [0]) (by unfold maxLen; omega) (by omega) (by simp; omega) ?_; intro v1 w1 hown1 hgrow1 _)
                have hr3 := hrev2.appended hown1 (by decide)
                have hdb3 := box_kept hrev2.1 hdb2 hgrow1
                have hnx3 := below_app hnx2 hrev2.1 (Nat.le_refl _) hsz2 _ hgrow1
                go_roundw
                case rel => exact ⟨t - 1, tj - 1, rev2 ++ [0], by omega, by omega, int_eq (by omega), int_eq (by omega), (show ((tj - 1 : Nat) : Int) = ((t - 1 : Nat) : Int) - ((i : Int) - j) by omega), hr3, HPN, hdb3, hnx3⟩
                case measure => simp [intOf]; omega
              · have htf' : t = xp := by omega
                have HPN : Hid (Plain.Path E n m (rev2 ++ [2]).reverse xp (tj - 1) (rows.length - (d - 1))) := by
                  have e0 : rows.length - (d - 1) = (rows.length - d) + 1 := by omega
                  rw [e0]
                  refine path_rev_ins (by omega) ?_
                  have e1 : xp = t := by omega
                  have e2 : (tj - 1 + 1) = tj := by omega
                  rw [e1, e2]; exact HP2.out
                have HQJ : Hid ((((tj - 1) : Nat) : Int) = (xp : Int) - ((i : Int) - j + 1)) := by
                  show (((tj - 1) : Nat) : Int) = _
                  omega
                have htf1 : t ≤ xp := by omega
                clear htf'
                go_wp2_with (at_builtin; refine wpList_append_own _ rfl _ _ 25 rfl w.heap.size 39 i0 (.int .i64 0) 1 8 Try.underlying25 hi0 hz0 hz1 hz2 rfl (by decide) u7 rev2.length (rev2.map (Value.int .i64)) rfl (hrev2.1.alloc _) ⟨wr.heap.size, 0, none⟩ 1 1 [.int .i64 2] rfl rfl (cell_new _ _ rfl _ _) (ints_oneCell .i64 [2]) (by unfold maxLen; omega) (by omega) (by simp; omega) ?_; intro v1 w1 hown1 hgrow1 _; have hr3 := hrev2.appended hown1 (by decide); have hdb3 := box_kept hrev2.1 hdb2 hgrow1; have hnx3 := below_app hnx2 hrev2.1 (Nat.le_refl _) hsz2 _ hgrow1; have hdc3 := cell_of_one hdb3)
                have hsz3 := hnx3.size
                go_roundw
                case rel =>
                  refine ⟨d - 1, xp, (tj - 1), w1.heap.size, rev2 ++ [2], by omega, rfl, int_eq (by rw [HQJ.out]), rfl, ?_, hsz3, ?_, ?_, ?_, HPN, ?_⟩
                  · have e1 : ((d - 1 : Nat) : Int) = (d : Int) - 1 := by omega
                    rw [e1]; exact heap_alloc_new w1 _
                  · exact hr3.alloc _
                  · have e1 : ((d - 1 : Nat) : Int) = (d : Int) - 1 := by omega
                    have e2 : (xp : Int) - (((tj - 1) : Nat) : Int) = (i : Int) - j + 1 := by rw [HQJ.out]; omega
                    show Plain.FR E ((d - 1 : Nat) : Int) ((xp : Int) - (((tj - 1) : Nat) : Int)) xp
                    rw [e1, e2]; exact HFX.out
                  · show (((d - 1 : Nat) : Int) - ((xp : Int) - (((tj - 1) : Nat) : Int))) % 2 = 0
                    rw [HQJ.out]
                    omega
                  · exact hnx3.alloc hsz3 _
                case measure =>
                  have e1 : ((d - 1 : Nat) : Int) = (d : Int) - 1 := by omega
                  have h1 : dOf (.pointer (some ⟨w1.heap.size, 0, none⟩)) (w1.alloc (.cells #[.int .i64 ((d : Int) - 1)] 3)) = d - 1 := by
                    rw [← e1]; exact dOf_eq (heap_alloc_new w1 _)
                  show dOf _ _ < dOf _ _
                  rw [HM.out]
                  simp only [h1] 
                  omega
          · have hff : Plain.fromI d ((i : Int) - j) xm xp = xm + 1 := by
              unfold Plain.fromI
              rw [if_neg (by intro h; rcases h with h | h; exact hka h; exact hxx h.2)]
            rw [hff] at hsl
            have hfi := hsl.1
            have HS : Hid (∀ t, xm + 1 ≤ t → t < i → E t (Plain.col ((i : Int) - j) t) = true) := hsl.2
            have HFX : Hid (Plain.FR E ((d : Int) - 1) ((i : Int) - j - 1) xm) := hFM
            clear hsl hff hfm hfp hFM hFP hka hkb hsm
            go_wp2_with (first | (go_at_call 22; have _t := tokA; refine Calls.mono (HCL.out ((i : Int) - j - 1) sm HSM.out (by omega) (by omega) (by omega)) ?_; rw [hxm]; rintro e w' ⟨rfl, rfl⟩; clear tokA) | (go_at_call 22; have _t := tokB; refine Calls.mono (HCL.out ((i : Int) - j + 1) (sm + 1) HSP.out (by omega) (by omega) (by omega)) ?_; rw [hxp]; rintro e w' ⟨rfl, rfl⟩; clear tokB) | (go_at_call 22; refine Calls.mono (HCL.out ((i : Int) - j - 1) sm HSM.out (by omega) (by omega) (by omega)) ?_; rw [hxm]; rintro e w' ⟨rfl, rfl⟩))
            clear hxm hxp hqs2 hxx hsa hsb
            clear hixt hxc hdc hqs hdlt
            obtain ⟨wo, rfl⟩ : ∃ wo : World, wo = wr := ⟨_, rfl⟩
            go_loopw [7, 8, 9] (fun rv iv jv wr => ∃ (t tj : Nat) (rev2 : List Int), (xm + 1) ≤ t ∧ t ≤ i ∧ iv = .int .i64 t ∧ jv = .int .i64 tj ∧ Hid ((tj : Int) = (t : Int) - ((i : Int) - j)) ∧ wr.ownsInts w.heap.size 39 .i64 rv rev2 ∧ Hid (Plain.Path E n m rev2.reverse t tj (rows.length - d)) ∧ wr.heap[db]? = some (.cells #[.int .i64 d] 3 (0, 0)) ∧ Below w.heap.size w wr) (fun _ iv _ _ => (intOf iv).toNat)
            case atStart => exact ⟨i, j, rev, hfi, Nat.le_refl _, rfl, rfl, (show (j : Int) = (i : Int) - ((i : Int) - j) by omega), hrev.alloc _, HP, hdb', hnx.alloc hsz _⟩
            case round =>
              clear HP hrev hrl hnx hsz hdb hdb' HCL HROW
              obtain ⟨t, tj, rev2, hft, hti, rfl, rfl, HTJ, hrev2, HP2, hdb2, hnx2⟩ := hrel
              have hpl := Plain.path_len HP2.out
              rw [List.length_reverse] at hpl
              have hrl2 : rev2.length ≤ n + m := by omega
              clear hpl
              have htj1 : (tj : Int) ≤ (t : Int) - ((i : Int) - j) := by have := HTJ.out; omega
              have htj2 : (t : Int) - ((i : Int) - j) ≤ (tj : Int) := by have := HTJ.out; omega
              have hsz2 := hnx2.size
              have hfk := HFX.out.1
              by_cases htf : (xm + 1) < t
              · have HES : Hid (E (t - 1) (tj - 1) = true) := by
                  have h1 := HS.out (t - 1) (by omega) (by omega)
                  have h2 : Plain.col ((i : Int) - j) (t - 1) = tj - 1 := by unfold Plain.col; omega
                  rw [h2] at h1
                  exact h1
                have HB := HE.out _ _ HES.out
                have hb1 := HB.1
                have hb2 := HB.2
                have HPN : Hid (Plain.Path E n m (rev2 ++ [0]).reverse (t - 1) (tj - 1) (rows.length - d)) := path_rev_same hb1 hb2 HES.out (by
                  have e1 : t - 1 + 1 = t := by omega
                  have e2 : tj - 1 + 1 = tj := by omega
                  rw [e1, e2]; exact HP2.out)
                clear HB HES
                go_wp2_with (at_builtin; refine wpList_append_own _ rfl _ _ 25 rfl w.heap.size 39 i0 (.int .i64 0) 1 8 Try.underlying25 hi0 hz0 hz1 hz2 rfl (by decide) u7 rev2.length (rev2.map (Value.int .i64)) rfl (hrev2.1.alloc _) ⟨wr.heap.size, 0, none⟩ 1 1 [.int .i64 0] rfl rfl (cell_new _ _ rfl _ _) (ints_oneCell .i64 [0]) (by unfold maxLen; omega) (by omega) (by simp; omega) ?_; intro v1 w1 hown1 hgrow1 _)
                have hr3 := hrev2.appended hown1 (by decide)
                have hdb3 := box_kept hrev2.1 hdb2 hgrow1
                have hnx3 := below_app hnx2 hrev2.1 (Nat.le_refl _) hsz2 _ hgrow1
                go_roundw
                case rel => exact ⟨t - 1, tj - 1, rev2 ++ [0], by omega, by omega, int_eq (by omega), int_eq (by omega), (show ((tj - 1 : Nat) : Int) = ((t - 1 : Nat) : Int) - ((i : Int) - j) by omega), hr3, HPN, hdb3, hnx3⟩
                case measure => simp [intOf]; omega
              · have htf' : t = (xm + 1) := by omega
                have HPN : Hid (Plain.Path E n m (rev2 ++ [1]).reverse xm tj (rows.length - (d - 1))) := by
                  have e0 : rows.length - (d - 1) = (rows.length - d) + 1 := by omega
                  rw [e0]
                  refine path_rev_del (by omega) ?_
                  have e1 : (xm + 1) = t := by omega
                  have e2 : tj = tj := by omega
                  rw [e1, e2]; exact HP2.out
                have HQJ : Hid (((tj : Nat) : Int) = (xm : Int) - ((i : Int) - j - 1)) := by
                  show ((tj : Nat) : Int) = _
                  omega
                have htf1 : t ≤ (xm + 1) := by omega
                clear htf'
                go_wp2_with (at_builtin; refine wpList_append_own _ rfl _ _ 25 rfl w.heap.size 39 i0 (.int .i64 0) 1 8 Try.underlying25 hi0 hz0 hz1 hz2 rfl (by decide) u7 rev2.length (rev2.map (Value.int .i64)) rfl (hrev2.1.alloc _) ⟨wr.heap.size, 0, none⟩ 1 1 [.int .i64 1] rfl rfl (cell_new _ _ rfl _ _) (ints_oneCell .i64 [1]) (by unfold maxLen; omega) (by omega) (by simp; omega) ?_; intro v1 w1 hown1 hgrow1 _; have hr3 := hrev2.appended hown1 (by decide); have hdb3 := box_kept hrev2.1 hdb2 hgrow1; have hnx3 := below_app hnx2 hrev2.1 (Nat.le_refl _) hsz2 _ hgrow1; have hdc3 := cell_of_one hdb3)
                have hsz3 := hnx3.size
                go_roundw
                case rel =>
                  refine ⟨d - 1, xm, tj, w1.heap.size, rev2 ++ [1], by omega, rfl, int_eq (by rw [HQJ.out]), rfl, ?_, hsz3, ?_, ?_, ?_, HPN, ?_⟩
                  · have e1 : ((d - 1 : Nat) : Int) = (d : Int) - 1 := by omega
                    rw [e1]; exact heap_alloc_new w1 _
                  · exact hr3.alloc _
                  · have e1 : ((d - 1 : Nat) : Int) = (d : Int) - 1 := by omega
                    have e2 : (xm : Int) - ((tj : Nat) : Int) = (i : Int) - j - 1 := by rw [HQJ.out]; omega
                    show Plain.FR E ((d - 1 : Nat) : Int) ((xm : Int) - ((tj : Nat) : Int)) xm
                    rw [e1, e2]; exact HFX.out
                  · show (((d - 1 : Nat) : Int) - ((xm : Int) - ((tj : Nat) : Int))) % 2 = 0
                    rw [HQJ.out]
                    omega
                  · exact hnx3.alloc hsz3 _
                case measure =>
                  have e1 : ((d - 1 : Nat) : Int) = (d : Int) - 1 := by omega
                  have h1 : dOf (.pointer (some ⟨w1.heap.size, 0, none⟩)) (w1.alloc (.cells #[.int .i64 ((d : Int) - 1)] 3)) = d - 1 := by
                    rw [← e1]; exact dOf_eq (heap_alloc_new w1 _)
                  show dOf _ _ < dOf _ _
                  rw [HM.out]
                  simp only [h1] 
                  omega
    · have hd0' : d = 0 := by omega
      subst hd0'
      have hfr := HF.out
      have hij : (i : Int) - j = 0 := by
        have h1 := hfr.2.1
        have h3 : Plain.col ((i : Int) - j) i = j := by unfold Plain.col; omega
        rw [h3] at h1
        have h2 := Plain.D_ge E i j
        omega
      rw [hij] at hfr
      have HZ : Hid (∀ t, t < i → E t t = true) := slide_zero HE.out hfr
      have hji : j = i := by omega
      have HPI : Hid (Plain.Path E n m rev.reverse i i rows.length) := by
        have := HP.out
        rw [hji, Nat.sub_zero] at this
        exact this
      clear hfr hij hji HP HF HPAR HM
      go_wp2
      clear hdc hdb
      obtain ⟨wo, rfl⟩ : ∃ wo : World, wo = wr := ⟨_, rfl⟩
      go_loopw [7, 8] (fun rv iv wr => ∃ (t : Nat) (rev2 : List Int), t ≤ i ∧ iv = .int .i64 t ∧ wr.ownsInts w.heap.size 39 .i64 rv rev2 ∧ Hid (Plain.Path E n m rev2.reverse t t rows.length) ∧ Below w.heap.size w wr) (fun _ iv _ => (intOf iv).toNat)
      case atStart => exact ⟨i, rev, Nat.le_refl _, rfl, hrev, HPI, hnx⟩
      case round =>
        clear HPI hrev hrl hnx hsz
        obtain ⟨t, rev2, hti, rfl, hrev2, HP2, hnx2⟩ := hrel
        have hpl := Plain.path_len HP2.out
        rw [List.length_reverse] at hpl
        have hrl2 : rev2.length ≤ n + m := by omega
        clear hpl
        have hsz2 := hnx2.size
        by_cases ht0 : 0 < t
        · have HES : Hid (E (t - 1) (t - 1) = true) := HZ.out (t - 1) (by omega)
          have HB := HE.out _ _ HES.out
          have hb1 := HB.1
          have hb2 := HB.2
          have HPN : Hid (Plain.Path E n m (rev2 ++ [0]).reverse (t - 1) (t - 1) rows.length) := path_rev_same hb1 hb2 HES.out (by
            have e1 : t - 1 + 1 = t := by omega
            rw [e1]; exact HP2.out)
          clear HB HES
          go_wp2_with (at_builtin; refine wpList_append_own _ rfl _ _ 25 rfl w.heap.size 39 i0 (.int .i64 0) 1 8 Try.underlying25 hi0 hz0 hz1 hz2 rfl (by decide) u7 rev2.length (rev2.map (Value.int .i64)) rfl (hrev2.1.alloc _) ⟨wr.heap.size, 0, none⟩ 1 1 [.int .i64 0] rfl rfl (cell_new _ _ rfl _ _) (ints_oneCell .i64 [0]) (by unfold maxLen; omega) (by omega) (by simp; omega) ?_; intro v1 w1 hown1 hgrow1 _)
          have hr3 := hrev2.appended hown1 (by decide)
          have hnx3 := below_app hnx2 hrev2.1 (Nat.le_refl _) hsz2 _ hgrow1
          go_roundw
          case rel => exact ⟨t - 1, rev2 ++ [0], by omega, int_eq (by omega), hr3, HPN, hnx3⟩
          case measure => simp [intOf]; omega
        · have ht0' : t = 0 := by omega
          subst ht0'
          have hlr := len_eq (P := Try.prog) hrev2.1 25 Try.sl25
          go_wp2_with (at_make; refine wpList_make_full _ rfl _ _ 25 rfl wr.heap.size 39 i0 (.int .i64 0) 1 Try.underlying25 hi0 hz0 hz1 _ _ _ _ rev2.length rfl rfl rfl rfl (by rw [hz2]; omega) (by unfold maxLen; omega) (Nat.le_refl _) ?_; intro w3 hown3 hgrow3)
          rw [made_one _ rfl] at hown3
          obtain ⟨wp, rfl⟩ : ∃ wp : World, wp = wr := ⟨_, rfl⟩
          have hb3 : Below wp.heap.size wp w3 := (Below.refl _ _).grown hgrow3 (Nat.le_refl _) (fun j hj => by cases hj)
          have ho3 : w3.ownsInts wp.heap.size 39 .i64 (.slice (some ⟨wp.heap.size, 0, none⟩) rev2.length rev2.length) (revTo rev2 0) := by
            rw [revTo_zero]
            refine ⟨by simpa using hown3, fun z hz => ?_⟩
            have := List.eq_of_mem_replicate hz
            subst this; decide
          clear hown3 hgrow3
          go_loopw [102] (fun kv wr => ∃ k : Nat, k ≤ rev2.length ∧ kv = .int .i64 k ∧ wr.ownsInts wp.heap.size 39 .i64 (.slice (some ⟨wp.heap.size, 0, none⟩) rev2.length rev2.length) (revTo rev2 k) ∧ Below wp.heap.size wp wr) (fun kv _ => rev2.length - (intOf kv).toNat)
          case atStart => exact ⟨0, Nat.zero_le _, rfl, ho3, hb3⟩
          case round =>
            clear ho3 hb3
            obtain ⟨k, hk, rfl, ho, hb⟩ := hrel
            by_cases hkl : k < rev2.length
            · have hrv := ownsInts_later hrev2 hb
              have ixr := index_eq hrv.1 25 Try.sl25 Try.ce25 k hkl
              have cr := cell_int hrv k hkl
              have HRV : Hid ((Lit.int .i64 (nth rev2 k)).wf = true) := wf_nth hrv k hkl
              have HL : Hid ((revTo rev2 k).length = rev2.length) := revTo_len hk
              have ixo := index_at ho.1 25 Try.sl25 Try.ce25 ((rev2.length : Int) - 1 - k) (rev2.length - 1 - k) (by omega) (by rw [HL.out]; omega)
              have fzo := frozen_eq ho.1 (rev2.length - 1 - k) (by rw [HL.out]; omega)
              obtain ⟨u, hu⟩ : ∃ u, wr.cell? ⟨blk (.slice (some ⟨wp.heap.size, 0, none⟩) rev2.length rev2.length), rev2.length - 1 - k, none⟩ = some u := ⟨_, cell_int ho (rev2.length - 1 - k) (by rw [HL.out]; omega)⟩
              obtain ⟨g1, g2⟩ := stored_int ho (rev2.length - 1 - k) (by rw [HL.out]; omega) (nth rev2 k) HRV.out
              rw [revTo_step hkl] at g1
              have g3 := hb.grown g2 hb.size (fun k hk => by cases hk; exact Nat.le_refl _)
              have G : Hid (_ ∧ _) := ⟨g1, g3⟩
              clear hrv g1 g2 g3
              go_wp2
              go_roundw
              case rel => exact ⟨k + 1, by omega, by go_num, G.out.1, G.out.2⟩
              case measure => simp [intOf]; omega
            · have hke : k = rev2.length := by omega
              subst hke
              rw [revTo_end] at ho
              go_wp2
              go_ret
              refine ⟨_, _, rfl, ⟨?_, ho.2⟩, HP2.out, hnx2.trans (hb.mono hsz2)⟩
              obtain ⟨q1, q2⟩ := ho.1
              refine ⟨q1, ?_⟩
              rcases q2 with q2 | ⟨g, cap, cur, r1, r2, r3⟩
              · exact Or.inl q2
              · exact Or.inr ⟨g, cap, cur, r1, Nat.le_trans hsz2 r2, r3⟩

end Go.Proofs.Qxb6605460a
