/-
  The seat b6003855a: matchLong.
-/
import Derived.Test.Qxb6003855aLongParts
import Derived.BigQuiet
import Derived.Deep.QuietTactic
namespace Go.Proofs.Qxb6003855a
open Go.RowKit Go.Maps

set_option maxHeartbeats 800000 in
set_option maxRecDepth 100000 in
theorem long_any (va vb : Value) (A B : List Int) (w : World) {b1 b2 : Nat} {e1 e2 : TypeId}
    (ha : w.ownsInts b1 e1 .i32 va A) (hb : w.ownsInts b2 e2 .i32 vb B) (hA : A.length ≤ 1048576) (hB : B.length ≤ 1048576) :
    Calls Try.prog 15 #[va, vb] w fun e w' => e = .returned (.tuple #[.int .i64 ((Plain.lto A B A.length).inA.length : Int), .int .i64 ((ooT (Plain.lto A B A.length).inA B (Plain.lto A B A.length).mt B.length / 2 : Nat) : Int)]) ∧ Below w.heap.size w w' := by
  have hla := len_eq (P := Try.prog) ha.1 22 Try.sl22
  have hlb := len_eq (P := Try.prog) hb.1 22 Try.sl22
  have hmm := @run_makeMap Try.prog
  have himx := fun (w : World) => @run_imax Try.prog w
  obtain ⟨i0, hi, hz0, hz1, hz2⟩ := info_parts Try.info3
  have hbd := imax_bd A.length B.length hA hB
  have hbd1 := hbd.1
  have hbd2 := hbd.2
  clear hbd
  have hwn := imax_win A.length B.length
  have hwb : Plain.win A.length B.length ≤ 1048576 := by unfold Plain.win; omega
  obtain ⟨wn, HW⟩ : ∃ wn, wn = Plain.win A.length B.length := ⟨_, rfl⟩
  rw [← HW] at hwn hwb
  have HWN : Hid (wn = Plain.win A.length B.length) := HW
  clear HW
  go_enter Try.func15, Try.ntmps15
  go_wp2
  clear hwn hbd1 hbd2 himx
  go_loopw [28] (fun j wr => ∃ k : Nat, k ≤ B.length ∧ j = .int .i64 k ∧ GF wr (w.heap.size + 1) w.heap.size k (plc B k) ∧ Below w.heap.size w wr ∧ w.heap.size + 1 ≤ wr.heap.size) (fun j _ => B.length - (intOf j).toNat)
  case atStart => exact ⟨0, Nat.zero_le _, rfl, GF_made w, (Below.refl _ _).alloc (Nat.le_refl _) _, by simp⟩
  case round =>
    obtain ⟨k, hk, rfl, hgf, hnx, hws⟩ := hrel
    by_cases hlt : k < B.length
    · have hb' := ownsInts_later hb hnx
      have hix := index_eq hb'.1 22 Try.sl22 Try.ce22 k hlt
      have hcx := cell_int hb' k hlt
      have hwf := wf_nth hb' k hlt
      clear hb'
      obtain ⟨D, hown, hD1, hD2⟩ := hgf
      have hkey := keyOf_int_mk (P := Try.prog) Try.underlying21 hwf
      go_wp2_with (first
        | (at_lookup; refine wpList_lookup_groups _ rfl _ _ 30 rfl 21 31 3 .i64 law21 Try.underlying30 (zero31 _) (w.heap.size + 1) w.heap.size k _ rfl hown (by unfold maxLen; omega) _ _ rfl hkey ?_; intro v zs hat hoi hzl hback)
        | (at_builtin; refine wpList_append_own_at _ rfl _ _ 31 rfl (w.heap.size + 1) 3 i0 (.int .i64 0) 1 8 Try.underlying31 hi hz0 hz1 hz2 rfl (by decide) _ _ _ rfl (hoi.1.alloc _) ⟨wr.heap.size, 0, none⟩ 1 1 [.int .i64 k] rfl rfl (cell_one_new _ _ _) (ints_oneCell .i64 [(k : Int)]) (by unfold maxLen; omega) (by omega) (by simp; omega) ?_; intro v' w1 hown' hgrow hnil hloc)
        | (at_mapUpdate; refine wpList_mapUpdate_back _ rfl _ _ _ 30 rfl hback rfl rfl rfl ((World.grownBy_alloc _ _ _).trans hgrow) (hoi.appended hown' (WalkArith.wf_i64 (by omega))) (by simp; omega) (loc_of hloc (by simp)) ?_; intro w2 hown2 hgrow2)
        | go_in)
      have hall := (World.grownBy_alloc wr _ _).trans hgrow
      have hzs := atIs_zs (hD2 _ hwf) hat hoi
      subst hzs
      go_roundw
      case rel =>
        refine ⟨k + 1, by omega, by go_num, ?_, hnx.groups hoi hall hgrow2 hnx.size (Nat.le_succ _) (Nat.le_refl _), Nat.le_trans hws (Nat.le_trans hall.size hgrow2.size)⟩
        have hap := hoi.appended hown' (WalkArith.wf_i64 (by omega))
        refine ⟨_, hown2, hD1.put _ _, ?_⟩
        rw [← plc_step]
        exact atIs_put hD1 hD2 hap
      case measure => simp [intOf]; omega
    · have hk' : k = B.length := by omega
      subst hk'
      clear hlt hk hmm
      obtain ⟨i4, hi4, hy0, hy1, hy2⟩ := info_parts Try.info4
      obtain ⟨ml, hml, hlen⟩ : ∃ m : Nat, m ≤ B.length ∧ ∀ ty, (Builtin.len_ #[30] ty #[.map (some w.heap.size)]).run Try.prog wr = .ok (.int .i64 (m : Int)) wr := by
        obtain ⟨D, hown, _⟩ := hgf
        exact groups_len hown Try.underlying30
      have hmh := run_makeMap_hint (P := Try.prog) Try.underlying32 ml
      go_wp2_with (at_make; refine wpList_make_full _ rfl _ _ 33 rfl (wr.heap.size + 1) 4 i4 (.bool false) 1 Try.underlying33 hi4 hy0 hy1 _ _ _ _ B.length rfl rfl rfl rfl (by rw [hy2]; omega) (by unfold maxLen; omega) (by simp) ?_; intro w3 hown3 hgrow3)
      have hm3 : (madeCells (Value.bool false).cells (B.length * 1)).toList = (Plain.lto A B 0).mt.map Value.bool := by
        rw [made_one _ rfl]; simp [Plain.lto]
      rw [hm3] at hown3
      clear hm3
      obtain ⟨W1, rfl⟩ : ∃ W1 : World, W1 = wr := ⟨_, rfl⟩
      have esz : (W1.alloc (.map #[] 0)).heap.size = W1.heap.size + 1 := by simp
      rw [esz] at hown3
      clear esz
      obtain ⟨hZ, hmf0, hr0⟩ := L2_start (Plain.lto_mt_len A B 0) hown3 hgrow3
      clear hlen hmh hgrow3 hown3 hml hi4 hy0 hy1 hy2 hi hz0 hz1 hz2
      obtain ⟨i2, hi2, hx0, hx1, hx2⟩ := info_parts Try.info21
      go_loopw [12, 50] (fun vi i wr => ∃ k : Nat, k ≤ A.length ∧ i = .int .i64 k ∧ MF wr W1.heap.size k (fun r => ((Plain.lto A B k).nx r : Int)) ∧ R2 W1 W1.heap.size w3.heap.size (.slice (some ⟨W1.heap.size + 1, 0, none⟩) B.length B.length) (Plain.lto A B k).mt (Plain.lto A B k).inA vi wr) (fun _ i _ => A.length - (intOf i).toNat)
      case atStart => exact ⟨0, Nat.zero_le _, rfl, hmf0, hr0⟩
      case round =>
        clear hmf0 hr0
        obtain ⟨i, hi, rfl, hmf, hr2⟩ := hrel
        have hnx2 : Below w.heap.size w wr := hnx.trans (hr2.2.2.2.1.mono hnx.size)
        by_cases hlt : i < A.length
        · have ha' := ownsInts_later ha hnx2
          have hix := index_eq ha'.1 22 Try.sl22 Try.ce22 i hlt
          have hcx := cell_int ha' i hlt
          have hwf := wf_nth ha' i hlt
          clear ha'
          obtain ⟨js, hL0, hjs0, _⟩ := hgf.look hwf
          have hL1 : ∀ nq, (Instr.lookup 30 (.map (some w.heap.size)) (.int .i32 (nth A i)) false).run Try.prog (wr.drewN nq) = .ok js (wr.drewN nq) := fun nq => hL0 _ (hr2.2.2.2.1.block w.heap.size (by omega))
          have hL2 : ∀ nq, (Instr.lookup 32 (.map (some W1.heap.size)) (.int .i32 (nth A i)) false).run Try.prog (wr.drewN nq) = .ok (.int .i64 ((Plain.lto A B i).nx (nth A i) : Int)) (wr.drewN nq) := fun nq => hmf.look hwf _ rfl
          have hjs := ownsInts_later hjs0 (hr2.2.2.2.1)
          clear hL0 hjs0
          have hjl := len_eq (P := Try.prog) hjs.1 31 Try.sl31
          have hnl := nx_le (A := A) (B := B) i (nth A i)
          have hpl := plc_len B B.length (nth A i)
          obtain ⟨nx0, hnx0⟩ : ∃ nx0, nx0 = (Plain.lto A B i).nx (nth A i) := ⟨_, rfl⟩
          rw [← hnx0] at hL2 hnl
          have HN : Hid (nx0 = (Plain.lto A B i).nx (nth A i)) := hnx0
          clear hnx0
          go_wp2
          go_quiet (fail)
          clear hL1 hL2
          go_wp2
          have HR2 : Hid (R2 W1 W1.heap.size w3.heap.size (.slice (some ⟨W1.heap.size + 1, 0, none⟩) B.length B.length) (Plain.lto A B i).mt (Plain.lto A B i).inA u12 wr) := hr2
          have HMF : Hid (MF wr W1.heap.size i (fun r => ((Plain.lto A B i).nx r : Int))) := hmf
          have HGF : Hid (GF W1 (w.heap.size + 1) w.heap.size B.length (plc B B.length)) := hgf
          clear hr2 hmf hgf hix hcx
          go_loop [16] (fun kv => ∃ k : Nat, k ≤ (plc B B.length (nth A i)).length ∧ kv = .int .i64 k ∧ curs B (nth A i) ((i : Int) - wn) k = curs B (nth A i) ((i : Int) - wn) nx0) (fun kv => (plc B B.length (nth A i)).length - (intOf kv).toNat)
          case atStart => exact ⟨nx0, hnl, rfl, rfl⟩
          case round =>
            obtain ⟨k, hk, rfl, hcu⟩ := hrel
            have HC : Hid (curs B (nth A i) ((i : Int) - wn) k = curs B (nth A i) ((i : Int) - wn) nx0) := hcu
            clear hcu
            by_cases hkl : k < (plc B B.length (nth A i)).length
            · have hjx := index_eq hjs.1 31 Try.sl31 Try.ce31 k hkl
              have hjc := cell_int hjs k hkl
              obtain ⟨hp1, hp2⟩ := plc_at hkl
              by_cases hlo : nth (plc B B.length (nth A i)) k < (i : Int) - wn
              · have HG : Hid (curs B (nth A i) ((i : Int) - wn) (k + 1) = curs B (nth A i) ((i : Int) - wn) k) := curs_go hkl hlo
                go_wp2
                go_round
                case rel => exact ⟨k + 1, by omega, by go_num, HG.out.trans HC.out⟩
                case measure => simp [intOf]; omega
              · have HG : Hid (curs B (nth A i) ((i : Int) - wn) k = k) := curs_stop hkl (by omega)
                by_cases hhi : nth (plc B B.length (nth A i)) k ≤ (i : Int) + wn
                · obtain ⟨hmt, hbox, hin, hb4, hb5⟩ := HR2.out
                  have hbx : wr.cell? ⟨w3.heap.size, 0, none⟩ = some (.slice (some ⟨W1.heap.size + 1, 0, none⟩) B.length B.length) := cell_of_one hbox
                  obtain ⟨pj, hpj⟩ : ∃ pj : Nat, nth (plc B B.length (nth A i)) k = (pj : Int) := ⟨_, (Int.toNat_of_nonneg hp1).symm⟩
                  have hlm : (Plain.lto A B i).mt.length = B.length := Plain.lto_mt_len A B i
                  rw [hlm] at hmt
                  rw [hpj] at hjc hp2 hlo hhi
                  have HP : Hid (nth (plc B B.length (nth A i)) k = (pj : Int)) := hpj
                  have hpl : pj < B.length := by omega
                  have hmf1 : wr.frozen? ⟨W1.heap.size + 1, pj, none⟩ = false := hmt.frozenAt pj
                  obtain ⟨u, hu⟩ : ∃ u, wr.cell? ⟨W1.heap.size + 1, pj, none⟩ = some (.bool u) := by
                    refine ⟨bth (Plain.lto A B i).mt pj, ?_⟩
                    exact cell_bool (v := .slice (some ⟨W1.heap.size + 1, 0, none⟩) B.length B.length) (by rw [hlm]; exact hmt) pj (by omega)
                  have hRd : R2 W1 W1.heap.size w3.heap.size (.slice (some ⟨W1.heap.size + 1, 0, none⟩) B.length B.length) (Plain.lto A B i).mt (Plain.lto A B i).inA u12 (wr.drewN (nq + 1)) := R2_drewN HR2.out _
                  have hMd : MF (wr.drewN (nq + 1)) W1.heap.size i (fun r => ((Plain.lto A B i).nx r : Int)) := HMF.out
                  obtain ⟨hRh, hgh⟩ := R2_hit hRd hlm.symm hZ pj
                  have hMh := hMd.kept hgh (by simp)
                  have hbl := Plain.inA_le A B i
                  have hhi' : nth (plc B B.length (nth A i)) k ≤ (i : Int) + wn := by rw [hpj]; exact hhi
                  have HE := lto_hit HWN.out (show curs B (nth A i) ((i : Int) - wn) ((Plain.lto A B i).nx (nth A i)) = k by rw [← HN.out, ← HC.out, HG.out]) hkl hhi'
                  rw [hpj, Int.toNat_natCast] at HE
                  have HE' : Hid _ := HE
                  clear hpj hmt hbox hin hlm hRd hMd hhi' HE
                  go_wp2
                  go_region
                  go_wp2_with (first | (at_builtin; refine wpList_append_own _ rfl _ _ 22 rfl (w3.heap.size + 1) 21 i2 (.int .i32 0) 1 4 Try.underlying22 hi2 hx0 hx1 hx2 rfl (by decide) u12 (Plain.lto A B i).inA.length ((Plain.lto A B i).inA.map (Value.int .i32)) rfl (hRh.2.2.1.1.alloc _) ⟨wr.heap.size, 0, none⟩ 1 1 [.int .i32 (nth A i)] rfl rfl (cell_one_at _ _ (by simp) _ _) (ints_oneCell .i32 [nth A i]) (by unfold maxLen; omega) (by omega) (by simp; omega) ?_; intro v1 w1 hown1 hgrow1 _; obtain ⟨hR3, hg3, hne3⟩ := R2_append hRh hZ hown1 hgrow1 hwf; obtain ⟨D, hD0, hD1, hD2⟩ := hMh.kept hg3 hne3) | (at_mapUpdate; refine wpList_mapUpdate_own _ rfl _ _ _ 32 rfl 21 3 law21 Try.underlying32 _ W1.heap.size i D rfl hD0 (by unfold maxLen; omega) _ _ _ rfl rfl (keyOf_int_mk Try.underlying21 hwf) (.lit (.int .i64 ((k : Int) + 1))) [] (plainElem_int Try.underlying3 (WalkArith.wf_i64 (by omega))) ?_; intro w2 hown2 hgrow2))
                  go_roundw
                  case rel =>
                    refine ⟨i + 1, by omega, by go_num, ?_, ?_⟩
                    · rw [(Hid.out HE').2.2]
                      exact MF_put hD1 hD2 hown2
                    · rw [(Hid.out HE').1, (Hid.out HE').2.1]
                      exact R2_put hR3 hZ hgrow2
                  case measure => simp [intOf]; omega
                · have HE' : Hid _ := lto_miss HWN.out (show curs B (nth A i) ((i : Int) - wn) ((Plain.lto A B i).nx (nth A i)) = k by rw [← HN.out, ← HC.out, HG.out]) (Or.inr (Int.lt_of_not_ge hhi))
                  have hRd : R2 W1 W1.heap.size w3.heap.size (.slice (some ⟨W1.heap.size + 1, 0, none⟩) B.length B.length) (Plain.lto A B i).mt (Plain.lto A B i).inA u12 (wr.drewN nq) := R2_drewN HR2.out _
                  have hMd : MF (wr.drewN nq) W1.heap.size i (fun r => ((Plain.lto A B i).nx r : Int)) := HMF.out
                  obtain ⟨D, hD0, hD1, hD2⟩ := hMd
                  go_wp2_with (at_mapUpdate; refine wpList_mapUpdate_own _ rfl _ _ _ 32 rfl 21 3 law21 Try.underlying32 _ W1.heap.size i D rfl hD0 (by unfold maxLen; omega) _ _ _ rfl rfl (keyOf_int_mk Try.underlying21 hwf) (.lit (.int .i64 (k : Int))) [] (plainElem_int Try.underlying3 (WalkArith.wf_i64 (by omega))) ?_; intro w2 hown2 hgrow2)
                  go_roundw
                  case rel =>
                    refine ⟨i + 1, by omega, by go_num, ?_, ?_⟩
                    · rw [(Hid.out HE').2.2]
                      exact MF_put hD1 hD2 hown2
                    · rw [(Hid.out HE').1, (Hid.out HE').2.1]
                      exact R2_put hRd hZ hgrow2
                  case measure => simp [intOf]; omega
            · have HG : Hid (curs B (nth A i) ((i : Int) - wn) k = k) := curs_end (by omega)
              have HE' : Hid _ := lto_miss HWN.out (show curs B (nth A i) ((i : Int) - wn) ((Plain.lto A B i).nx (nth A i)) = k by rw [← HN.out, ← HC.out, HG.out]) (Or.inl (by omega))
              have hRd : R2 W1 W1.heap.size w3.heap.size (.slice (some ⟨W1.heap.size + 1, 0, none⟩) B.length B.length) (Plain.lto A B i).mt (Plain.lto A B i).inA u12 (wr.drewN nq) := R2_drewN HR2.out _
              have hMd : MF (wr.drewN nq) W1.heap.size i (fun r => ((Plain.lto A B i).nx r : Int)) := HMF.out
              obtain ⟨D, hD0, hD1, hD2⟩ := hMd
              go_wp2_with (at_mapUpdate; refine wpList_mapUpdate_own _ rfl _ _ _ 32 rfl 21 3 law21 Try.underlying32 _ W1.heap.size i D rfl hD0 (by unfold maxLen; omega) _ _ _ rfl rfl (keyOf_int_mk Try.underlying21 hwf) (.lit (.int .i64 (k : Int))) [] (plainElem_int Try.underlying3 (WalkArith.wf_i64 (by omega))) ?_; intro w2 hown2 hgrow2)
              go_roundw
              case rel =>
                refine ⟨i + 1, by omega, by go_num, ?_, ?_⟩
                · rw [(Hid.out HE').2.2]
                  exact MF_put hD1 hD2 hown2
                · rw [(Hid.out HE').1, (Hid.out HE').2.1]
                  exact R2_put hRd hZ hgrow2
              case measure => simp [intOf]; omega
        · have hiA : i = A.length := by omega
          subst hiA
          clear hlt hi
          obtain ⟨hmt, hbox, hin, hb4, hb5⟩ := hr2
          have hbx : wr.cell? ⟨w3.heap.size, 0, none⟩ = some (.slice (some ⟨W1.heap.size + 1, 0, none⟩) B.length B.length) := cell_of_one hbox
          have hli := len_eq (P := Try.prog) hin.1 22 Try.sl22
          have hb' := ownsInts_later hb hnx2
          have HLM : Hid ((Plain.lto A B A.length).mt.length = B.length) := Plain.lto_mt_len A B A.length
          have HCN : Hid ((Plain.lto A B A.length).inA.length = Plain.cnt (Plain.lto A B A.length).mt) := Plain.inA_cnt A B A.length
          have hle := Plain.inA_le A B A.length
          clear hbox hgf
          go_wp2_with (go_at_call 18; refine (oo_long _ _ _ w3.heap.size _ _ _ wr hin hb' hmt hbx HLM.out HCN.out hB).mono ?_; rintro e w' ⟨rfl, rfl⟩)
          go_ret2
          exact ⟨rfl, hnx2⟩

end Go.Proofs.Qxb6003855a
