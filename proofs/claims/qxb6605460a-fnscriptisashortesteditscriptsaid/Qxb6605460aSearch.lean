/-
  The seat b6605460a: shortest (F15).
-/
import Derived.Test.Qxb6605460aSearchParts
namespace Go.Proofs.Qxb6605460a
open Go.RowKit Go.Maps

theorem nat_idx {lim : Nat} {k z : Int} {N : Nat} (hz : z = (lim : Int) + 1 + k) (h1 : -(lim : Int) - 1 ≤ k) (h2 : k ≤ (lim : Int) + 1) (hN : N = 2 * lim + 3) : z = ((ix lim k : Nat) : Int) ∧ ix lim k < N := by unfold ix; omega

set_option maxHeartbeats 16000000 in
set_option maxRecDepth 100000 in
theorem short_any (va vb : Value) (A B : List Int) (w : World) {b1 b2 : Nat} {e1 e2 : TypeId} (ha : w.ownsInts b1 e1 .i64 va A) (hb : w.ownsInts b2 e2 .i64 vb B) (hA : A.length ≤ 4096) (hB : B.length ≤ 4096) :
    Calls Try.prog 15 #[va, vb] w fun e w' => ∃ v ops, e = .returned v ∧ w'.ownsInts w.heap.size 39 .i64 v ops ∧ Short (EI A B) A.length B.length (Plain.D (EI A B) A.length B.length) ops ∧ Below w.heap.size w w' := by
  have hla := len_eq (P := Try.prog) ha.1 22 Try.sl22
  have hlb := len_eq (P := Try.prog) hb.1 22 Try.sl22
  have himn := fun (w : World) => @run_imin Try.prog w
  obtain ⟨i0, hi0, hz0, hz1, hz2⟩ := info_parts Try.info3
  obtain ⟨i2, hi2, hy0, hy1, hy2⟩ := info_parts Try.info22
  obtain ⟨i9, hi9, hx0, hx1, hx2⟩ := info_parts Try.info39
  have HE : Hid (∀ i j, EI A B i j = true → i < A.length ∧ j < B.length) := EI_lt A B
  obtain ⟨lim, hlim, hlm1, hlm2, hlm3⟩ := lim_eq A.length B.length
  have HLM : Hid (lim = 1000 ∨ lim = A.length + B.length) := hlm3
  clear hlm3
  have hD := Plain.D_ge (EI A B) A.length B.length
  have hD1 := hD.2.2.1
  have hD2 := hD.2.2.2
  clear hD
  obtain ⟨dist, hdist⟩ : ∃ dist : Int, dist = Plain.D (EI A B) A.length B.length := ⟨_, rfl⟩
  rw [← hdist] at hD1 hD2 ⊢
  have HDI : Hid (dist = Plain.D (EI A B) A.length B.length) := hdist
  clear hdist
  go_enter Try.func15, Try.ntmps15
  go_wp2_with (at_make; refine wpList_make_full _ rfl _ _ 22 rfl w.heap.size 3 i0 (.int .i64 0) 1 Try.underlying22 hi0 hz0 hz1 _ _ _ _ (2 * lim + 3) rfl rfl (by omega) (by omega) (by rw [hz2]; omega) (by unfold maxLen; omega) (Nat.le_refl _) ?_; intro w1 hown1 hgrow1)
  clear hlim himn
  have hx1' := made_zero hown1
  have hb1 : Below w.heap.size w w1 := (Below.refl _ _).grown hgrow1 (Nat.le_refl _) (fun j hj => by cases hj)
  have hs1 : w.heap.size + 1 ≤ w1.heap.size := (hown1.lt w.heap.size rfl).2
  clear hown1 hgrow1
  go_loopw [10, 11] (fun tv dv wr => ∃ (d : Nat) (X : List Int) (rows : List (List Int)), d ≤ lim + 1 ∧ dv = .int .i64 d ∧ wr.ownsInts w.heap.size 3 .i64 (.slice (some ⟨w.heap.size, 0, none⟩) (2 * lim + 3) (2 * lim + 3)) X ∧ Hid (X.length = 2 * lim + 3) ∧ Hid (XI (EI A B) lim d X) ∧ TR wr (w.heap.size + 1) tv rows ∧ Hid (rows.length = d) ∧ Hid (RowsOK (EI A B) rows) ∧ (d : Int) ≤ dist ∧ Below w.heap.size w wr ∧ w.heap.size + 1 ≤ wr.heap.size) (fun _ dv _ => lim + 1 - (intOf dv).toNat)
  case atStart => exact ⟨0, List.replicate (2 * lim + 3) 0, [], Nat.zero_le _, rfl, hx1', (List.length_replicate : _ = _), XI_zero _, ⟨[], World.ownsRow_nil _ _ _ _, fun t ht => by simp at ht⟩, (rfl : ([] : List (List Int)).length = 0), fun t ht => by simp at ht, hD1, hb1, hs1⟩
  case round =>
    clear hx1' hb1 hs1
    obtain ⟨d, X, rows, hd, rfl, hX, HXL, HXI, htr, HRL, HRO, hdd, hnx, hws⟩ := hrel
    by_cases hdl : d ≤ lim
    · have hloop : True := trivial
      go_wp2
      obtain ⟨wo, rfl⟩ : ∃ wo : World, wo = wr := ⟨_, rfl⟩
      go_loopw [12] (fun kv wr => ∃ (s : Nat) (kz : Int) (X : List Int), s ≤ d + 1 ∧ kv = .int .i64 kz ∧ Hid (kz = 2 * (s : Int) - d) ∧ wr.ownsInts w.heap.size 3 .i64 (.slice (some ⟨w.heap.size, 0, none⟩) (2 * lim + 3) (2 * lim + 3)) X ∧ Hid (X.length = 2 * lim + 3) ∧ Hid (XJ (EI A B) A.length B.length lim d s X) ∧ TR wr (w.heap.size + 1) u10 rows ∧ Below w.heap.size w wr ∧ w.heap.size + 1 ≤ wr.heap.size) (fun kv _ => (2 + (d : Int) - intOf kv).toNat)
      case atStart => exact ⟨0, -(d : Int), X, Nat.zero_le _, rfl, (show -(d : Int) = 2 * ((0 : Nat) : Int) - d by omega), hX, HXL, XJ_start HXI.out, htr, hnx, hws⟩
      case round =>
        clear hX HXL HXI htr hnx hws
        obtain ⟨s, kz, X, hs, rfl, HK, hX, HXL, HXJ, htr, hnx, hws⟩ := hrel
        have hk1 : 2 * (s : Int) - d ≤ kz := by have := HK.out; omega
        have hk2 : kz ≤ 2 * (s : Int) - d := by have := HK.out; omega
        by_cases hsd : s ≤ d
        · have hkd : kz ≤ (d : Int) := by omega
          have hkd2 : -(d : Int) ≤ kz := by omega
          have ixk := index_at hX.1 22 Try.sl22 Try.ce22 ((lim : Int) + 1 + kz) (ix lim kz) (nat_idx rfl (by omega) (by omega) rfl).1 (by rw [HXL.out]; exact (nat_idx (N := 2 * lim + 3) rfl (by omega) (by omega) rfl).2)
          have fzk := frozen_eq hX.1 (ix lim kz) (by rw [HXL.out]; exact (nat_idx (N := 2 * lim + 3) rfl (by omega) (by omega) rfl).2)
          obtain ⟨uk, huk⟩ : ∃ u, wr.cell? ⟨blk (.slice (some ⟨w.heap.size, 0, none⟩) (2 * lim + 3) (2 * lim + 3)), ix lim kz, none⟩ = some u := ⟨_, cell_int hX (ix lim kz) (by rw [HXL.out]; exact (nat_idx (N := 2 * lim + 3) rfl (by omega) (by omega) rfl).2)⟩
          by_cases hka : kz = -(d : Int)
          · obtain ⟨xp, hxp, hkx, hxb, hrf⟩ := start_a HE.out HXJ.out.1 hdl hka
            have ixp := index_at hX.1 22 Try.sl22 Try.ce22 ((lim : Int) + 1 + kz + 1) (ix lim (kz + 1)) (nat_idx (by omega) (by omega) (by omega) rfl).1 (by rw [HXL.out]; exact (nat_idx (N := 2 * lim + 3) rfl (by omega) (by omega) rfl).2)
            have cxp := cell_int hX (ix lim (kz + 1)) (by rw [HXL.out]; exact (nat_idx (N := 2 * lim + 3) rfl (by omega) (by omega) rfl).2)
            rw [hxp] at cxp
            have HRF : Hid (RF (EI A B) d kz xp) := hrf
            have hq1 : (kz == -(d : Int)) = true := by rw [hka]; simp
            clear hxp hrf hka
            go_wp2
            go_quiet (fail)
            go_wp2
            clear ixp cxp hq1
            obtain ⟨wi, rfl⟩ : ∃ wi : World, wi = wr := ⟨_, rfl⟩
            go_loopw [13] (fun iv wr => ∃ t q : Nat, xp ≤ t ∧ t ≤ 8192 ∧ iv = .int .i64 t ∧ Hid (∀ u, xp ≤ u → u < t → EI A B u (Plain.col kz u) = true) ∧ wr = wi.drewN q) (fun iv _ => A.length - (intOf iv).toNat)
            case atStart => exact ⟨xp, nq, Nat.le_refl _, by omega, rfl, (fun u h1 h2 => by omega), by simp⟩
            case round =>
              obtain ⟨t, q, htf, ht8, rfl, HSL, rfl⟩ := hrel
              have ha' := ownsInts_later ha hnx
              have hb' := ownsInts_later hb hnx
              have hcol : (t : Int) - kz = ((Plain.col kz t : Nat) : Int) := by unfold Plain.col; omega
              have HCOL : Hid ((t : Int) - kz = ((Plain.col kz t : Nat) : Int)) := hcol
              have hcol1 : (t : Int) - kz ≤ ((Plain.col kz t : Nat) : Int) := by omega
              have hcol2 : ((Plain.col kz t : Nat) : Int) ≤ (t : Int) - kz := by omega
              clear hcol
              by_cases hm : EI A B t (Plain.col kz t) = true
              · have hlts := EI_lt A B _ _ hm
                have hl1 := hlts.1
                have hl2 := hlts.2
                have hq : (nth A t == nth B (Plain.col kz t)) = true := by simp [EI_eq hm]
                have ixa := index_eq ha'.1 22 Try.sl22 Try.ce22 t hl1
                have ca := cell_int ha' t hl1
                have ixb := index_at hb'.1 22 Try.sl22 Try.ce22 ((t : Int) - kz) (Plain.col kz t) HCOL.out hl2
                have cb := cell_int hb' (Plain.col kz t) hl2
                have HSN : Hid (∀ u, xp ≤ u → u < t + 1 → EI A B u (Plain.col kz u) = true) := by
                  intro u h1 h2
                  by_cases e : u = t
                  · subst e; exact hm
                  · exact HSL.out u h1 (by omega)
                have hd1 : (t : Int) < (A.length : Int) := by omega
                have hd2 : (t : Int) - kz < (B.length : Int) := by omega
                clear hlts hm ha' hb'
                go_wp2
                go_quiet (fail)
                go_wp2
                go_roundw
                case rel => exact ⟨t + 1, q + nq, by omega, by omega, by go_num, HSN, by simp⟩
                case measure => simp [intOf]; omega
              · have hmf : EI A B t (Plain.col kz t) = false := by simpa using hm
                have HFR : Hid (Plain.FR (EI A B) d kz t) := HRF.out t htf HSL.out hmf
                clear hmf
                by_cases hl1 : t < A.length
                · by_cases hl2 : Plain.col kz t < B.length
                  · have hq : (nth A t == nth B (Plain.col kz t)) = false := by
                      have : ¬ nth A t = nth B (Plain.col kz t) := fun e => hm (EI_mk hl1 hl2 e)
                      simp [this]
                    have ixa := index_eq ha'.1 22 Try.sl22 Try.ce22 t hl1
                    have ca := cell_int ha' t hl1
                    have ixb := index_at hb'.1 22 Try.sl22 Try.ce22 ((t : Int) - kz) (Plain.col kz t) HCOL.out hl2
                    have cb := cell_int hb' (Plain.col kz t) hl2
                    have hd1 : (t : Int) < (A.length : Int) := by omega
                    have hd2 : (t : Int) - kz < (B.length : Int) := by omega
                    clear hm ha' hb'
                    go_wp2
                    go_quiet (fail)
                    clear hq ixa ca ixb cb
                    have HJN : Hid (XJ (EI A B) A.length B.length lim d (s + 1) (X.set (ix lim kz) (t : Int))) := XJ_store HXJ.out hdl HXL.out HK.out hsd HFR.out (fun h => by omega)
                    have HKN : Hid (kz + 2 = 2 * ((s + 1 : Nat) : Int) - d) := by
                      show kz + 2 = 2 * ((s + 1 : Nat) : Int) - d
                      omega
                    have HLN : Hid ((X.set (ix lim kz) (t : Int)).length = 2 * lim + 3) := by
                      show (X.set (ix lim kz) (t : Int)).length = 2 * lim + 3
                      rw [List.length_set]; exact HXL.out
                    go_wp2
                    go_roundw
                    case rel => exact ⟨s + 1, kz + 2, X.set (ix lim kz) (t : Int), by omega, rfl, HKN, (store_x (k := ix lim kz) (t := t) hX (by rw [HXL.out]; exact (nat_idx (k := kz) (N := 2 * lim + 3) rfl (by omega) (by omega) rfl).2) ht8 htr hnx hws _).1, HLN, HJN, (store_x (k := ix lim kz) (t := t) hX (by rw [HXL.out]; exact (nat_idx (k := kz) (N := 2 * lim + 3) rfl (by omega) (by omega) rfl).2) ht8 htr hnx hws _).2.1, (store_x (k := ix lim kz) (t := t) hX (by rw [HXL.out]; exact (nat_idx (k := kz) (N := 2 * lim + 3) rfl (by omega) (by omega) rfl).2) ht8 htr hnx hws _).2.2.1, (store_x (k := ix lim kz) (t := t) hX (by rw [HXL.out]; exact (nat_idx (k := kz) (N := 2 * lim + 3) rfl (by omega) (by omega) rfl).2) ht8 htr hnx hws _).2.2.2⟩
                    case measure => simp [intOf]; omega
                  · have hd1 : (t : Int) < (A.length : Int) := by omega
                    have hd2 : decide ((t : Int) - kz < (B.length : Int)) = false := by simp; omega
                    clear hm ha' hb'
                    go_wp2
                    go_quiet (fail)
                    clear hd2
                    have HJN : Hid (XJ (EI A B) A.length B.length lim d (s + 1) (X.set (ix lim kz) (t : Int))) := XJ_store HXJ.out hdl HXL.out HK.out hsd HFR.out (fun h => by omega)
                    have HKN : Hid (kz + 2 = 2 * ((s + 1 : Nat) : Int) - d) := by
                      show kz + 2 = 2 * ((s + 1 : Nat) : Int) - d
                      omega
                    have HLN : Hid ((X.set (ix lim kz) (t : Int)).length = 2 * lim + 3) := by
                      show (X.set (ix lim kz) (t : Int)).length = 2 * lim + 3
                      rw [List.length_set]; exact HXL.out
                    go_wp2
                    go_roundw
                    case rel => exact ⟨s + 1, kz + 2, X.set (ix lim kz) (t : Int), by omega, rfl, HKN, (store_x (k := ix lim kz) (t := t) hX (by rw [HXL.out]; exact (nat_idx (k := kz) (N := 2 * lim + 3) rfl (by omega) (by omega) rfl).2) ht8 htr hnx hws _).1, HLN, HJN, (store_x (k := ix lim kz) (t := t) hX (by rw [HXL.out]; exact (nat_idx (k := kz) (N := 2 * lim + 3) rfl (by omega) (by omega) rfl).2) ht8 htr hnx hws _).2.1, (store_x (k := ix lim kz) (t := t) hX (by rw [HXL.out]; exact (nat_idx (k := kz) (N := 2 * lim + 3) rfl (by omega) (by omega) rfl).2) ht8 htr hnx hws _).2.2.1, (store_x (k := ix lim kz) (t := t) hX (by rw [HXL.out]; exact (nat_idx (k := kz) (N := 2 * lim + 3) rfl (by omega) (by omega) rfl).2) ht8 htr hnx hws _).2.2.2⟩
                    case measure => simp [intOf]; omega
                · have hd1 : decide ((t : Int) < (A.length : Int)) = false := by simp; omega
                  clear hm ha' hb'
                  go_wp2
                  go_quiet (fail)
                  clear hd1
                  by_cases hg2 : (B.length : Int) ≤ (t : Int) - kz
                  · have hg1 : (A.length : Int) ≤ (t : Int) := by omega
                    obtain ⟨g1, g2, g3⟩ := Plain.done_at (EI A B) HE.out HFR.out (by rw [← HDI.out]; exact hdd) (by omega) hg2
                    have HRL2 : Hid ((rows.length : Int) = Plain.D (EI A B) A.length B.length) := by
                      show (rows.length : Int) = _
                      rw [HRL.out]; exact g1
                    have HFR2 : Hid (Plain.FR (EI A B) rows.length ((A.length : Int) - B.length) A.length) := by
                      have := HFR.out
                      rw [g2, g3] at this
                      show Plain.FR (EI A B) rows.length ((A.length : Int) - B.length) A.length
                      rw [HRL.out]; exact this
                    clear g1 g2 g3
                    go_wp2_with (go_at_call 20; refine (back_any (EI A B) u10 rows A.length B.length _ HE.out (store_x (k := ix lim kz) (t := t) hX (by rw [HXL.out]; exact (nat_idx (k := kz) (N := 2 * lim + 3) rfl (by omega) (by omega) rfl).2) ht8 htr hnx hws _).2.1 HRO.out HRL2.out HFR2.out hA hB (by rw [HRL.out]; omega)).mono ?_; rintro e w5 ⟨v, ops, rfl, hops, hpath, hbel⟩)
                    go_ret
                    have hst := (store_x (k := ix lim kz) (t := t) hX (by rw [HXL.out]; exact (nat_idx (k := kz) (N := 2 * lim + 3) rfl (by omega) (by omega) rfl).2) ht8 htr hnx hws (q + nq))
                    refine ⟨v, ops, rfl, ownsInts_base hops (Nat.le_trans (Nat.le_succ _) hst.2.2.2), ⟨fun _ => ?_, fun h => ?_⟩, hst.2.2.1.trans (hbel.mono (Nat.le_trans (Nat.le_succ _) hst.2.2.2))⟩
                    · have e : dist.toNat = rows.length := by rw [HDI.out, ← HRL2.out]; simp
                      rw [e]; exact hpath
                    · have := HRL2.out
                      rw [← HDI.out, HRL.out] at this
                      omega
                  · have hg2' : (t : Int) - kz < (B.length : Int) := by omega
                    have hg1 : (A.length : Int) ≤ (t : Int) := by omega
                    have HJN : Hid (XJ (EI A B) A.length B.length lim d (s + 1) (X.set (ix lim kz) (t : Int))) := XJ_store HXJ.out hdl HXL.out HK.out hsd HFR.out (fun h => by omega)
                    have HKN : Hid (kz + 2 = 2 * ((s + 1 : Nat) : Int) - d) := by
                      show kz + 2 = 2 * ((s + 1 : Nat) : Int) - d
                      omega
                    have HLN : Hid ((X.set (ix lim kz) (t : Int)).length = 2 * lim + 3) := by
                      show (X.set (ix lim kz) (t : Int)).length = 2 * lim + 3
                      rw [List.length_set]; exact HXL.out
                    go_wp2
                    go_roundw
                    case rel => exact ⟨s + 1, kz + 2, X.set (ix lim kz) (t : Int), by omega, rfl, HKN, (store_x (k := ix lim kz) (t := t) hX (by rw [HXL.out]; exact (nat_idx (k := kz) (N := 2 * lim + 3) rfl (by omega) (by omega) rfl).2) ht8 htr hnx hws _).1, HLN, HJN, (store_x (k := ix lim kz) (t := t) hX (by rw [HXL.out]; exact (nat_idx (k := kz) (N := 2 * lim + 3) rfl (by omega) (by omega) rfl).2) ht8 htr hnx hws _).2.1, (store_x (k := ix lim kz) (t := t) hX (by rw [HXL.out]; exact (nat_idx (k := kz) (N := 2 * lim + 3) rfl (by omega) (by omega) rfl).2) ht8 htr hnx hws _).2.2.1, (store_x (k := ix lim kz) (t := t) hX (by rw [HXL.out]; exact (nat_idx (k := kz) (N := 2 * lim + 3) rfl (by omega) (by omega) rfl).2) ht8 htr hnx hws _).2.2.2⟩
                    case measure => simp [intOf]; omega
          · by_cases hkb : kz = (d : Int)
            · obtain ⟨xm, hxm, hkx, hxb, hrf⟩ := start_b HE.out HXJ.out.1 hkb (by omega)
              have ixm := index_at hX.1 22 Try.sl22 Try.ce22 ((lim : Int) + 1 + kz - 1) (ix lim (kz - 1)) (nat_idx (by omega) (by omega) (by omega) rfl).1 (by rw [HXL.out]; exact (nat_idx (N := 2 * lim + 3) rfl (by omega) (by omega) rfl).2)
              have cxm := cell_int hX (ix lim (kz - 1)) (by rw [HXL.out]; exact (nat_idx (N := 2 * lim + 3) rfl (by omega) (by omega) rfl).2)
              rw [hxm] at cxm
              have HRF : Hid (RF (EI A B) d kz (xm + 1)) := hrf
              have hq1 : (kz == -(d : Int)) = false := by simp [hka]
              have hq2 : (kz != (d : Int)) = false := by simp [hkb]
              clear hxm hrf hka hkb
              go_wp2
              go_quiet (fail)
              go_wp2
              clear ixm cxm hq1 hq2
              obtain ⟨wi, rfl⟩ : ∃ wi : World, wi = wr := ⟨_, rfl⟩
              go_loopw [13] (fun iv wr => ∃ t q : Nat, (xm + 1) ≤ t ∧ t ≤ 8192 ∧ iv = .int .i64 t ∧ Hid (∀ u, (xm + 1) ≤ u → u < t → EI A B u (Plain.col kz u) = true) ∧ wr = wi.drewN q) (fun iv _ => A.length - (intOf iv).toNat)
              case atStart => exact ⟨(xm + 1), nq, Nat.le_refl _, by omega, by go_num, (fun u h1 h2 => by omega), by simp⟩
              case round =>
                obtain ⟨t, q, htf, ht8, rfl, HSL, rfl⟩ := hrel
                have ha' := ownsInts_later ha hnx
                have hb' := ownsInts_later hb hnx
                have hcol : (t : Int) - kz = ((Plain.col kz t : Nat) : Int) := by unfold Plain.col; omega
                have HCOL : Hid ((t : Int) - kz = ((Plain.col kz t : Nat) : Int)) := hcol
                have hcol1 : (t : Int) - kz ≤ ((Plain.col kz t : Nat) : Int) := by omega
                have hcol2 : ((Plain.col kz t : Nat) : Int) ≤ (t : Int) - kz := by omega
                clear hcol
                by_cases hm : EI A B t (Plain.col kz t) = true
                · have hlts := EI_lt A B _ _ hm
                  have hl1 := hlts.1
                  have hl2 := hlts.2
                  have hq : (nth A t == nth B (Plain.col kz t)) = true := by simp [EI_eq hm]
                  have ixa := index_eq ha'.1 22 Try.sl22 Try.ce22 t hl1
                  have ca := cell_int ha' t hl1
                  have ixb := index_at hb'.1 22 Try.sl22 Try.ce22 ((t : Int) - kz) (Plain.col kz t) HCOL.out hl2
                  have cb := cell_int hb' (Plain.col kz t) hl2
                  have HSN : Hid (∀ u, (xm + 1) ≤ u → u < t + 1 → EI A B u (Plain.col kz u) = true) := by
                    intro u h1 h2
                    by_cases e : u = t
                    · subst e; exact hm
                    · exact HSL.out u h1 (by omega)
                  have hd1 : (t : Int) < (A.length : Int) := by omega
                  have hd2 : (t : Int) - kz < (B.length : Int) := by omega
                  clear hlts hm ha' hb'
                  go_wp2
                  go_quiet (fail)
                  go_wp2
                  go_roundw
                  case rel => exact ⟨t + 1, q + nq, by omega, by omega, by go_num, HSN, by simp⟩
                  case measure => simp [intOf]; omega
                · have hmf : EI A B t (Plain.col kz t) = false := by simpa using hm
                  have HFR : Hid (Plain.FR (EI A B) d kz t) := HRF.out t htf HSL.out hmf
                  clear hmf
                  by_cases hl1 : t < A.length
                  · by_cases hl2 : Plain.col kz t < B.length
                    · have hq : (nth A t == nth B (Plain.col kz t)) = false := by
                        have : ¬ nth A t = nth B (Plain.col kz t) := fun e => hm (EI_mk hl1 hl2 e)
                        simp [this]
                      have ixa := index_eq ha'.1 22 Try.sl22 Try.ce22 t hl1
                      have ca := cell_int ha' t hl1
                      have ixb := index_at hb'.1 22 Try.sl22 Try.ce22 ((t : Int) - kz) (Plain.col kz t) HCOL.out hl2
                      have cb := cell_int hb' (Plain.col kz t) hl2
                      have hd1 : (t : Int) < (A.length : Int) := by omega
                      have hd2 : (t : Int) - kz < (B.length : Int) := by omega
                      clear hm ha' hb'
                      go_wp2
                      go_quiet (fail)
                      clear hq ixa ca ixb cb
                      have HJN : Hid (XJ (EI A B) A.length B.length lim d (s + 1) (X.set (ix lim kz) (t : Int))) := XJ_store HXJ.out hdl HXL.out HK.out hsd HFR.out (fun h => by omega)
                      have HKN : Hid (kz + 2 = 2 * ((s + 1 : Nat) : Int) - d) := by
                        show kz + 2 = 2 * ((s + 1 : Nat) : Int) - d
                        omega
                      have HLN : Hid ((X.set (ix lim kz) (t : Int)).length = 2 * lim + 3) := by
                        show (X.set (ix lim kz) (t : Int)).length = 2 * lim + 3
                        rw [List.length_set]; exact HXL.out
                      go_wp2
                      go_roundw
                      case rel => exact ⟨s + 1, kz + 2, X.set (ix lim kz) (t : Int), by omega, rfl, HKN, (store_x (k := ix lim kz) (t := t) hX (by rw [HXL.out]; exact (nat_idx (k := kz) (N := 2 * lim + 3) rfl (by omega) (by omega) rfl).2) ht8 htr hnx hws _).1, HLN, HJN, (store_x (k := ix lim kz) (t := t) hX (by rw [HXL.out]; exact (nat_idx (k := kz) (N := 2 * lim + 3) rfl (by omega) (by omega) rfl).2) ht8 htr hnx hws _).2.1, (store_x (k := ix lim kz) (t := t) hX (by rw [HXL.out]; exact (nat_idx (k := kz) (N := 2 * lim + 3) rfl (by omega) (by omega) rfl).2) ht8 htr hnx hws _).2.2.1, (store_x (k := ix lim kz) (t := t) hX (by rw [HXL.out]; exact (nat_idx (k := kz) (N := 2 * lim + 3) rfl (by omega) (by omega) rfl).2) ht8 htr hnx hws _).2.2.2⟩
                      case measure => simp [intOf]; omega
                    · have hd1 : (t : Int) < (A.length : Int) := by omega
                      have hd2 : decide ((t : Int) - kz < (B.length : Int)) = false := by simp; omega
                      clear hm ha' hb'
                      go_wp2
                      go_quiet (fail)
                      clear hd2
                      have HJN : Hid (XJ (EI A B) A.length B.length lim d (s + 1) (X.set (ix lim kz) (t : Int))) := XJ_store HXJ.out hdl HXL.out HK.out hsd HFR.out (fun h => by omega)
                      have HKN : Hid (kz + 2 = 2 * ((s + 1 : Nat) : Int) - d) := by
                        show kz + 2 = 2 * ((s + 1 : Nat) : Int) - d
                        omega
                      have HLN : Hid ((X.set (ix lim kz) (t : Int)).length = 2 * lim + 3) := by
                        show (X.set (ix lim kz) (t : Int)).length = 2 * lim + 3
                        rw [List.length_set]; exact HXL.out
                      go_wp2
                      go_roundw
                      case rel => exact ⟨s + 1, kz + 2, X.set (ix lim kz) (t : Int), by omega, rfl, HKN, (store_x (k := ix lim kz) (t := t) hX (by rw [HXL.out]; exact (nat_idx (k := kz) (N := 2 * lim + 3) rfl (by omega) (by omega) rfl).2) ht8 htr hnx hws _).1, HLN, HJN, (store_x (k := ix lim kz) (t := t) hX (by rw [HXL.out]; exact (nat_idx (k := kz) (N := 2 * lim + 3) rfl (by omega) (by omega) rfl).2) ht8 htr hnx hws _).2.1, (store_x (k := ix lim kz) (t := t) hX (by rw [HXL.out]; exact (nat_idx (k := kz) (N := 2 * lim + 3) rfl (by omega) (by omega) rfl).2) ht8 htr hnx hws _).2.2.1, (store_x (k := ix lim kz) (t := t) hX (by rw [HXL.out]; exact (nat_idx (k := kz) (N := 2 * lim + 3) rfl (by omega) (by omega) rfl).2) ht8 htr hnx hws _).2.2.2⟩
                      case measure => simp [intOf]; omega
                  · have hd1 : decide ((t : Int) < (A.length : Int)) = false := by simp; omega
                    clear hm ha' hb'
                    go_wp2
                    go_quiet (fail)
                    clear hd1
                    by_cases hg2 : (B.length : Int) ≤ (t : Int) - kz
                    · have hg1 : (A.length : Int) ≤ (t : Int) := by omega
                      obtain ⟨g1, g2, g3⟩ := Plain.done_at (EI A B) HE.out HFR.out (by rw [← HDI.out]; exact hdd) (by omega) hg2
                      have HRL2 : Hid ((rows.length : Int) = Plain.D (EI A B) A.length B.length) := by
                        show (rows.length : Int) = _
                        rw [HRL.out]; exact g1
                      have HFR2 : Hid (Plain.FR (EI A B) rows.length ((A.length : Int) - B.length) A.length) := by
                        have := HFR.out
                        rw [g2, g3] at this
                        show Plain.FR (EI A B) rows.length ((A.length : Int) - B.length) A.length
                        rw [HRL.out]; exact this
                      clear g1 g2 g3
                      go_wp2_with (go_at_call 20; refine (back_any (EI A B) u10 rows A.length B.length _ HE.out (store_x (k := ix lim kz) (t := t) hX (by rw [HXL.out]; exact (nat_idx (k := kz) (N := 2 * lim + 3) rfl (by omega) (by omega) rfl).2) ht8 htr hnx hws _).2.1 HRO.out HRL2.out HFR2.out hA hB (by rw [HRL.out]; omega)).mono ?_; rintro e w5 ⟨v, ops, rfl, hops, hpath, hbel⟩)
                      go_ret
                      have hst := (store_x (k := ix lim kz) (t := t) hX (by rw [HXL.out]; exact (nat_idx (k := kz) (N := 2 * lim + 3) rfl (by omega) (by omega) rfl).2) ht8 htr hnx hws (q + nq))
                      refine ⟨v, ops, rfl, ownsInts_base hops (Nat.le_trans (Nat.le_succ _) hst.2.2.2), ⟨fun _ => ?_, fun h => ?_⟩, hst.2.2.1.trans (hbel.mono (Nat.le_trans (Nat.le_succ _) hst.2.2.2))⟩
                      · have e : dist.toNat = rows.length := by rw [HDI.out, ← HRL2.out]; simp
                        rw [e]; exact hpath
                      · have := HRL2.out
                        rw [← HDI.out, HRL.out] at this
                        omega
                    · have hg2' : (t : Int) - kz < (B.length : Int) := by omega
                      have hg1 : (A.length : Int) ≤ (t : Int) := by omega
                      have HJN : Hid (XJ (EI A B) A.length B.length lim d (s + 1) (X.set (ix lim kz) (t : Int))) := XJ_store HXJ.out hdl HXL.out HK.out hsd HFR.out (fun h => by omega)
                      have HKN : Hid (kz + 2 = 2 * ((s + 1 : Nat) : Int) - d) := by
                        show kz + 2 = 2 * ((s + 1 : Nat) : Int) - d
                        omega
                      have HLN : Hid ((X.set (ix lim kz) (t : Int)).length = 2 * lim + 3) := by
                        show (X.set (ix lim kz) (t : Int)).length = 2 * lim + 3
                        rw [List.length_set]; exact HXL.out
                      go_wp2
                      go_roundw
                      case rel => exact ⟨s + 1, kz + 2, X.set (ix lim kz) (t : Int), by omega, rfl, HKN, (store_x (k := ix lim kz) (t := t) hX (by rw [HXL.out]; exact (nat_idx (k := kz) (N := 2 * lim + 3) rfl (by omega) (by omega) rfl).2) ht8 htr hnx hws _).1, HLN, HJN, (store_x (k := ix lim kz) (t := t) hX (by rw [HXL.out]; exact (nat_idx (k := kz) (N := 2 * lim + 3) rfl (by omega) (by omega) rfl).2) ht8 htr hnx hws _).2.1, (store_x (k := ix lim kz) (t := t) hX (by rw [HXL.out]; exact (nat_idx (k := kz) (N := 2 * lim + 3) rfl (by omega) (by omega) rfl).2) ht8 htr hnx hws _).2.2.1, (store_x (k := ix lim kz) (t := t) hX (by rw [HXL.out]; exact (nat_idx (k := kz) (N := 2 * lim + 3) rfl (by omega) (by omega) rfl).2) ht8 htr hnx hws _).2.2.2⟩
                      case measure => simp [intOf]; omega
            · obtain ⟨xm, xp, hxm, hxp, hkx, hkx2, hxb, hxb2, hrf1, hrf2⟩ := start_c HE.out HXJ.out.1 (k := kz) (by omega) (by omega) (by omega)
              have ixm := index_at hX.1 22 Try.sl22 Try.ce22 ((lim : Int) + 1 + kz - 1) (ix lim (kz - 1)) (nat_idx (by omega) (by omega) (by omega) rfl).1 (by rw [HXL.out]; exact (nat_idx (N := 2 * lim + 3) rfl (by omega) (by omega) rfl).2)
              have cxm := cell_int hX (ix lim (kz - 1)) (by rw [HXL.out]; exact (nat_idx (N := 2 * lim + 3) rfl (by omega) (by omega) rfl).2)
              rw [hxm] at cxm
              have ixp := index_at hX.1 22 Try.sl22 Try.ce22 ((lim : Int) + 1 + kz + 1) (ix lim (kz + 1)) (nat_idx (by omega) (by omega) (by omega) rfl).1 (by rw [HXL.out]; exact (nat_idx (N := 2 * lim + 3) rfl (by omega) (by omega) rfl).2)
              have cxp := cell_int hX (ix lim (kz + 1)) (by rw [HXL.out]; exact (nat_idx (N := 2 * lim + 3) rfl (by omega) (by omega) rfl).2)
              rw [hxp] at cxp
              have hq1 : (kz == -(d : Int)) = false := by simp [hka]
              have hq2 : (kz != (d : Int)) = true := by simp [hkb]
              clear hxm hxp hka hkb
              by_cases hxx : xm < xp
              · have HRF : Hid (RF (EI A B) d kz xp) := hrf1 hxx
                have hxx' : (xm : Int) < (xp : Int) := by omega
                clear hrf1 hrf2 hxx
                go_wp2
                go_quiet (fail)
                go_wp2
                clear ixm cxm ixp cxp hq1 hq2 hxx'
                obtain ⟨wi, rfl⟩ : ∃ wi : World, wi = wr := ⟨_, rfl⟩
                go_loopw [13] (fun iv wr => ∃ t q : Nat, xp ≤ t ∧ t ≤ 8192 ∧ iv = .int .i64 t ∧ Hid (∀ u, xp ≤ u → u < t → EI A B u (Plain.col kz u) = true) ∧ wr = wi.drewN q) (fun iv _ => A.length - (intOf iv).toNat)
                case atStart => exact ⟨xp, nq, Nat.le_refl _, by omega, rfl, (fun u h1 h2 => by omega), by simp⟩
                case round =>
                  obtain ⟨t, q, htf, ht8, rfl, HSL, rfl⟩ := hrel
                  have ha' := ownsInts_later ha hnx
                  have hb' := ownsInts_later hb hnx
                  have hcol : (t : Int) - kz = ((Plain.col kz t : Nat) : Int) := by unfold Plain.col; omega
                  have HCOL : Hid ((t : Int) - kz = ((Plain.col kz t : Nat) : Int)) := hcol
                  have hcol1 : (t : Int) - kz ≤ ((Plain.col kz t : Nat) : Int) := by omega
                  have hcol2 : ((Plain.col kz t : Nat) : Int) ≤ (t : Int) - kz := by omega
                  clear hcol
                  by_cases hm : EI A B t (Plain.col kz t) = true
                  · have hlts := EI_lt A B _ _ hm
                    have hl1 := hlts.1
                    have hl2 := hlts.2
                    have hq : (nth A t == nth B (Plain.col kz t)) = true := by simp [EI_eq hm]
                    have ixa := index_eq ha'.1 22 Try.sl22 Try.ce22 t hl1
                    have ca := cell_int ha' t hl1
                    have ixb := index_at hb'.1 22 Try.sl22 Try.ce22 ((t : Int) - kz) (Plain.col kz t) HCOL.out hl2
                    have cb := cell_int hb' (Plain.col kz t) hl2
                    have HSN : Hid (∀ u, xp ≤ u → u < t + 1 → EI A B u (Plain.col kz u) = true) := by
                      intro u h1 h2
                      by_cases e : u = t
                      · subst e; exact hm
                      · exact HSL.out u h1 (by omega)
                    have hd1 : (t : Int) < (A.length : Int) := by omega
                    have hd2 : (t : Int) - kz < (B.length : Int) := by omega
                    clear hlts hm ha' hb'
                    go_wp2
                    go_quiet (fail)
                    go_wp2
                    go_roundw
                    case rel => exact ⟨t + 1, q + nq, by omega, by omega, by go_num, HSN, by simp⟩
                    case measure => simp [intOf]; omega
                  · have hmf : EI A B t (Plain.col kz t) = false := by simpa using hm
                    have HFR : Hid (Plain.FR (EI A B) d kz t) := HRF.out t htf HSL.out hmf
                    clear hmf
                    by_cases hl1 : t < A.length
                    · by_cases hl2 : Plain.col kz t < B.length
                      · have hq : (nth A t == nth B (Plain.col kz t)) = false := by
                          have : ¬ nth A t = nth B (Plain.col kz t) := fun e => hm (EI_mk hl1 hl2 e)
                          simp [this]
                        have ixa := index_eq ha'.1 22 Try.sl22 Try.ce22 t hl1
                        have ca := cell_int ha' t hl1
                        have ixb := index_at hb'.1 22 Try.sl22 Try.ce22 ((t : Int) - kz) (Plain.col kz t) HCOL.out hl2
                        have cb := cell_int hb' (Plain.col kz t) hl2
                        have hd1 : (t : Int) < (A.length : Int) := by omega
                        have hd2 : (t : Int) - kz < (B.length : Int) := by omega
                        clear hm ha' hb'
                        go_wp2
                        go_quiet (fail)
                        clear hq ixa ca ixb cb
                        have HJN : Hid (XJ (EI A B) A.length B.length lim d (s + 1) (X.set (ix lim kz) (t : Int))) := XJ_store HXJ.out hdl HXL.out HK.out hsd HFR.out (fun h => by omega)
                        have HKN : Hid (kz + 2 = 2 * ((s + 1 : Nat) : Int) - d) := by
                          show kz + 2 = 2 * ((s + 1 : Nat) : Int) - d
                          omega
                        have HLN : Hid ((X.set (ix lim kz) (t : Int)).length = 2 * lim + 3) := by
                          show (X.set (ix lim kz) (t : Int)).length = 2 * lim + 3
                          rw [List.length_set]; exact HXL.out
                        go_wp2
                        go_roundw
                        case rel => exact ⟨s + 1, kz + 2, X.set (ix lim kz) (t : Int), by omega, rfl, HKN, (store_x (k := ix lim kz) (t := t) hX (by rw [HXL.out]; exact (nat_idx (k := kz) (N := 2 * lim + 3) rfl (by omega) (by omega) rfl).2) ht8 htr hnx hws _).1, HLN, HJN, (store_x (k := ix lim kz) (t := t) hX (by rw [HXL.out]; exact (nat_idx (k := kz) (N := 2 * lim + 3) rfl (by omega) (by omega) rfl).2) ht8 htr hnx hws _).2.1, (store_x (k := ix lim kz) (t := t) hX (by rw [HXL.out]; exact (nat_idx (k := kz) (N := 2 * lim + 3) rfl (by omega) (by omega) rfl).2) ht8 htr hnx hws _).2.2.1, (store_x (k := ix lim kz) (t := t) hX (by rw [HXL.out]; exact (nat_idx (k := kz) (N := 2 * lim + 3) rfl (by omega) (by omega) rfl).2) ht8 htr hnx hws _).2.2.2⟩
                        case measure => simp [intOf]; omega
                      · have hd1 : (t : Int) < (A.length : Int) := by omega
                        have hd2 : decide ((t : Int) - kz < (B.length : Int)) = false := by simp; omega
                        clear hm ha' hb'
                        go_wp2
                        go_quiet (fail)
                        clear hd2
                        have HJN : Hid (XJ (EI A B) A.length B.length lim d (s + 1) (X.set (ix lim kz) (t : Int))) := XJ_store HXJ.out hdl HXL.out HK.out hsd HFR.out (fun h => by omega)
                        have HKN : Hid (kz + 2 = 2 * ((s + 1 : Nat) : Int) - d) := by
                          show kz + 2 = 2 * ((s + 1 : Nat) : Int) - d
                          omega
                        have HLN : Hid ((X.set (ix lim kz) (t : Int)).length = 2 * lim + 3) := by
                          show (X.set (ix lim kz) (t : Int)).length = 2 * lim + 3
                          rw [List.length_set]; exact HXL.out
                        go_wp2
                        go_roundw
                        case rel => exact ⟨s + 1, kz + 2, X.set (ix lim kz) (t : Int), by omega, rfl, HKN, (store_x (k := ix lim kz) (t := t) hX (by rw [HXL.out]; exact (nat_idx (k := kz) (N := 2 * lim + 3) rfl (by omega) (by omega) rfl).2) ht8 htr hnx hws _).1, HLN, HJN, (store_x (k := ix lim kz) (t := t) hX (by rw [HXL.out]; exact (nat_idx (k := kz) (N := 2 * lim + 3) rfl (by omega) (by omega) rfl).2) ht8 htr hnx hws _).2.1, (store_x (k := ix lim kz) (t := t) hX (by rw [HXL.out]; exact (nat_idx (k := kz) (N := 2 * lim + 3) rfl (by omega) (by omega) rfl).2) ht8 htr hnx hws _).2.2.1, (store_x (k := ix lim kz) (t := t) hX (by rw [HXL.out]; exact (nat_idx (k := kz) (N := 2 * lim + 3) rfl (by omega) (by omega) rfl).2) ht8 htr hnx hws _).2.2.2⟩
                        case measure => simp [intOf]; omega
                    · have hd1 : decide ((t : Int) < (A.length : Int)) = false := by simp; omega
                      clear hm ha' hb'
                      go_wp2
                      go_quiet (fail)
                      clear hd1
                      by_cases hg2 : (B.length : Int) ≤ (t : Int) - kz
                      · have hg1 : (A.length : Int) ≤ (t : Int) := by omega
                        obtain ⟨g1, g2, g3⟩ := Plain.done_at (EI A B) HE.out HFR.out (by rw [← HDI.out]; exact hdd) (by omega) hg2
                        have HRL2 : Hid ((rows.length : Int) = Plain.D (EI A B) A.length B.length) := by
                          show (rows.length : Int) = _
                          rw [HRL.out]; exact g1
                        have HFR2 : Hid (Plain.FR (EI A B) rows.length ((A.length : Int) - B.length) A.length) := by
                          have := HFR.out
                          rw [g2, g3] at this
                          show Plain.FR (EI A B) rows.length ((A.length : Int) - B.length) A.length
                          rw [HRL.out]; exact this
                        clear g1 g2 g3
                        go_wp2_with (go_at_call 20; refine (back_any (EI A B) u10 rows A.length B.length _ HE.out (store_x (k := ix lim kz) (t := t) hX (by rw [HXL.out]; exact (nat_idx (k := kz) (N := 2 * lim + 3) rfl (by omega) (by omega) rfl).2) ht8 htr hnx hws _).2.1 HRO.out HRL2.out HFR2.out hA hB (by rw [HRL.out]; omega)).mono ?_; rintro e w5 ⟨v, ops, rfl, hops, hpath, hbel⟩)
                        go_ret
                        have hst := (store_x (k := ix lim kz) (t := t) hX (by rw [HXL.out]; exact (nat_idx (k := kz) (N := 2 * lim + 3) rfl (by omega) (by omega) rfl).2) ht8 htr hnx hws (q + nq))
                        refine ⟨v, ops, rfl, ownsInts_base hops (Nat.le_trans (Nat.le_succ _) hst.2.2.2), ⟨fun _ => ?_, fun h => ?_⟩, hst.2.2.1.trans (hbel.mono (Nat.le_trans (Nat.le_succ _) hst.2.2.2))⟩
                        · have e : dist.toNat = rows.length := by rw [HDI.out, ← HRL2.out]; simp
                          rw [e]; exact hpath
                        · have := HRL2.out
                          rw [← HDI.out, HRL.out] at this
                          omega
                      · have hg2' : (t : Int) - kz < (B.length : Int) := by omega
                        have hg1 : (A.length : Int) ≤ (t : Int) := by omega
                        have HJN : Hid (XJ (EI A B) A.length B.length lim d (s + 1) (X.set (ix lim kz) (t : Int))) := XJ_store HXJ.out hdl HXL.out HK.out hsd HFR.out (fun h => by omega)
                        have HKN : Hid (kz + 2 = 2 * ((s + 1 : Nat) : Int) - d) := by
                          show kz + 2 = 2 * ((s + 1 : Nat) : Int) - d
                          omega
                        have HLN : Hid ((X.set (ix lim kz) (t : Int)).length = 2 * lim + 3) := by
                          show (X.set (ix lim kz) (t : Int)).length = 2 * lim + 3
                          rw [List.length_set]; exact HXL.out
                        go_wp2
                        go_roundw
                        case rel => exact ⟨s + 1, kz + 2, X.set (ix lim kz) (t : Int), by omega, rfl, HKN, (store_x (k := ix lim kz) (t := t) hX (by rw [HXL.out]; exact (nat_idx (k := kz) (N := 2 * lim + 3) rfl (by omega) (by omega) rfl).2) ht8 htr hnx hws _).1, HLN, HJN, (store_x (k := ix lim kz) (t := t) hX (by rw [HXL.out]; exact (nat_idx (k := kz) (N := 2 * lim + 3) rfl (by omega) (by omega) rfl).2) ht8 htr hnx hws _).2.1, (store_x (k := ix lim kz) (t := t) hX (by rw [HXL.out]; exact (nat_idx (k := kz) (N := 2 * lim + 3) rfl (by omega) (by omega) rfl).2) ht8 htr hnx hws _).2.2.1, (store_x (k := ix lim kz) (t := t) hX (by rw [HXL.out]; exact (nat_idx (k := kz) (N := 2 * lim + 3) rfl (by omega) (by omega) rfl).2) ht8 htr hnx hws _).2.2.2⟩
                        case measure => simp [intOf]; omega
              · have HRF : Hid (RF (EI A B) d kz (xm + 1)) := hrf2 hxx
                have hxx' : (xp : Int) ≤ (xm : Int) := by omega
                clear hrf1 hrf2 hxx
                go_wp2
                go_quiet (fail)
                go_wp2
                clear ixm cxm ixp cxp hq1 hq2 hxx'
                obtain ⟨wi, rfl⟩ : ∃ wi : World, wi = wr := ⟨_, rfl⟩
                go_loopw [13] (fun iv wr => ∃ t q : Nat, (xm + 1) ≤ t ∧ t ≤ 8192 ∧ iv = .int .i64 t ∧ Hid (∀ u, (xm + 1) ≤ u → u < t → EI A B u (Plain.col kz u) = true) ∧ wr = wi.drewN q) (fun iv _ => A.length - (intOf iv).toNat)
                case atStart => exact ⟨(xm + 1), nq, Nat.le_refl _, by omega, by go_num, (fun u h1 h2 => by omega), by simp⟩
                case round =>
                  obtain ⟨t, q, htf, ht8, rfl, HSL, rfl⟩ := hrel
                  have ha' := ownsInts_later ha hnx
                  have hb' := ownsInts_later hb hnx
                  have hcol : (t : Int) - kz = ((Plain.col kz t : Nat) : Int) := by unfold Plain.col; omega
                  have HCOL : Hid ((t : Int) - kz = ((Plain.col kz t : Nat) : Int)) := hcol
                  have hcol1 : (t : Int) - kz ≤ ((Plain.col kz t : Nat) : Int) := by omega
                  have hcol2 : ((Plain.col kz t : Nat) : Int) ≤ (t : Int) - kz := by omega
                  clear hcol
                  by_cases hm : EI A B t (Plain.col kz t) = true
                  · have hlts := EI_lt A B _ _ hm
                    have hl1 := hlts.1
                    have hl2 := hlts.2
                    have hq : (nth A t == nth B (Plain.col kz t)) = true := by simp [EI_eq hm]
                    have ixa := index_eq ha'.1 22 Try.sl22 Try.ce22 t hl1
                    have ca := cell_int ha' t hl1
                    have ixb := index_at hb'.1 22 Try.sl22 Try.ce22 ((t : Int) - kz) (Plain.col kz t) HCOL.out hl2
                    have cb := cell_int hb' (Plain.col kz t) hl2
                    have HSN : Hid (∀ u, (xm + 1) ≤ u → u < t + 1 → EI A B u (Plain.col kz u) = true) := by
                      intro u h1 h2
                      by_cases e : u = t
                      · subst e; exact hm
                      · exact HSL.out u h1 (by omega)
                    have hd1 : (t : Int) < (A.length : Int) := by omega
                    have hd2 : (t : Int) - kz < (B.length : Int) := by omega
                    clear hlts hm ha' hb'
                    go_wp2
                    go_quiet (fail)
                    go_wp2
                    go_roundw
                    case rel => exact ⟨t + 1, q + nq, by omega, by omega, by go_num, HSN, by simp⟩
                    case measure => simp [intOf]; omega
                  · have hmf : EI A B t (Plain.col kz t) = false := by simpa using hm
                    have HFR : Hid (Plain.FR (EI A B) d kz t) := HRF.out t htf HSL.out hmf
                    clear hmf
                    by_cases hl1 : t < A.length
                    · by_cases hl2 : Plain.col kz t < B.length
                      · have hq : (nth A t == nth B (Plain.col kz t)) = false := by
                          have : ¬ nth A t = nth B (Plain.col kz t) := fun e => hm (EI_mk hl1 hl2 e)
                          simp [this]
                        have ixa := index_eq ha'.1 22 Try.sl22 Try.ce22 t hl1
                        have ca := cell_int ha' t hl1
                        have ixb := index_at hb'.1 22 Try.sl22 Try.ce22 ((t : Int) - kz) (Plain.col kz t) HCOL.out hl2
                        have cb := cell_int hb' (Plain.col kz t) hl2
                        have hd1 : (t : Int) < (A.length : Int) := by omega
                        have hd2 : (t : Int) - kz < (B.length : Int) := by omega
                        clear hm ha' hb'
                        go_wp2
                        go_quiet (fail)
                        clear hq ixa ca ixb cb
                        have HJN : Hid (XJ (EI A B) A.length B.length lim d (s + 1) (X.set (ix lim kz) (t : Int))) := XJ_store HXJ.out hdl HXL.out HK.out hsd HFR.out (fun h => by omega)
                        have HKN : Hid (kz + 2 = 2 * ((s + 1 : Nat) : Int) - d) := by
                          show kz + 2 = 2 * ((s + 1 : Nat) : Int) - d
                          omega
                        have HLN : Hid ((X.set (ix lim kz) (t : Int)).length = 2 * lim + 3) := by
                          show (X.set (ix lim kz) (t : Int)).length = 2 * lim + 3
                          rw [List.length_set]; exact HXL.out
                        go_wp2
                        go_roundw
                        case rel => exact ⟨s + 1, kz + 2, X.set (ix lim kz) (t : Int), by omega, rfl, HKN, (store_x (k := ix lim kz) (t := t) hX (by rw [HXL.out]; exact (nat_idx (k := kz) (N := 2 * lim + 3) rfl (by omega) (by omega) rfl).2) ht8 htr hnx hws _).1, HLN, HJN, (store_x (k := ix lim kz) (t := t) hX (by rw [HXL.out]; exact (nat_idx (k := kz) (N := 2 * lim + 3) rfl (by omega) (by omega) rfl).2) ht8 htr hnx hws _).2.1, (store_x (k := ix lim kz) (t := t) hX (by rw [HXL.out]; exact (nat_idx (k := kz) (N := 2 * lim + 3) rfl (by omega) (by omega) rfl).2) ht8 htr hnx hws _).2.2.1, (store_x (k := ix lim kz) (t := t) hX (by rw [HXL.out]; exact (nat_idx (k := kz) (N := 2 * lim + 3) rfl (by omega) (by omega) rfl).2) ht8 htr hnx hws _).2.2.2⟩
                        case measure => simp [intOf]; omega
                      · have hd1 : (t : Int) < (A.length : Int) := by omega
                        have hd2 : decide ((t : Int) - kz < (B.length : Int)) = false := by simp; omega
                        clear hm ha' hb'
                        go_wp2
                        go_quiet (fail)
                        clear hd2
                        have HJN : Hid (XJ (EI A B) A.length B.length lim d (s + 1) (X.set (ix lim kz) (t : Int))) := XJ_store HXJ.out hdl HXL.out HK.out hsd HFR.out (fun h => by omega)
                        have HKN : Hid (kz + 2 = 2 * ((s + 1 : Nat) : Int) - d) := by
                          show kz + 2 = 2 * ((s + 1 : Nat) : Int) - d
                          omega
                        have HLN : Hid ((X.set (ix lim kz) (t : Int)).length = 2 * lim + 3) := by
                          show (X.set (ix lim kz) (t : Int)).length = 2 * lim + 3
                          rw [List.length_set]; exact HXL.out
                        go_wp2
                        go_roundw
                        case rel => exact ⟨s + 1, kz + 2, X.set (ix lim kz) (t : Int), by omega, rfl, HKN, (store_x (k := ix lim kz) (t := t) hX (by rw [HXL.out]; exact (nat_idx (k := kz) (N := 2 * lim + 3) rfl (by omega) (by omega) rfl).2) ht8 htr hnx hws _).1, HLN, HJN, (store_x (k := ix lim kz) (t := t) hX (by rw [HXL.out]; exact (nat_idx (k := kz) (N := 2 * lim + 3) rfl (by omega) (by omega) rfl).2) ht8 htr hnx hws _).2.1, (store_x (k := ix lim kz) (t := t) hX (by rw [HXL.out]; exact (nat_idx (k := kz) (N := 2 * lim + 3) rfl (by omega) (by omega) rfl).2) ht8 htr hnx hws _).2.2.1, (store_x (k := ix lim kz) (t := t) hX (by rw [HXL.out]; exact (nat_idx (k := kz) (N := 2 * lim + 3) rfl (by omega) (by omega) rfl).2) ht8 htr hnx hws _).2.2.2⟩
                        case measure => simp [intOf]; omega
                    · have hd1 : decide ((t : Int) < (A.length : Int)) = false := by simp; omega
                      clear hm ha' hb'
                      go_wp2
                      go_quiet (fail)
                      clear hd1
                      by_cases hg2 : (B.length : Int) ≤ (t : Int) - kz
                      · have hg1 : (A.length : Int) ≤ (t : Int) := by omega
                        obtain ⟨g1, g2, g3⟩ := Plain.done_at (EI A B) HE.out HFR.out (by rw [← HDI.out]; exact hdd) (by omega) hg2
                        have HRL2 : Hid ((rows.length : Int) = Plain.D (EI A B) A.length B.length) := by
                          show (rows.length : Int) = _
                          rw [HRL.out]; exact g1
                        have HFR2 : Hid (Plain.FR (EI A B) rows.length ((A.length : Int) - B.length) A.length) := by
                          have := HFR.out
                          rw [g2, g3] at this
                          show Plain.FR (EI A B) rows.length ((A.length : Int) - B.length) A.length
                          rw [HRL.out]; exact this
                        clear g1 g2 g3
                        go_wp2_with (go_at_call 20; refine (back_any (EI A B) u10 rows A.length B.length _ HE.out (store_x (k := ix lim kz) (t := t) hX (by rw [HXL.out]; exact (nat_idx (k := kz) (N := 2 * lim + 3) rfl (by omega) (by omega) rfl).2) ht8 htr hnx hws _).2.1 HRO.out HRL2.out HFR2.out hA hB (by rw [HRL.out]; omega)).mono ?_; rintro e w5 ⟨v, ops, rfl, hops, hpath, hbel⟩)
                        go_ret
                        have hst := (store_x (k := ix lim kz) (t := t) hX (by rw [HXL.out]; exact (nat_idx (k := kz) (N := 2 * lim + 3) rfl (by omega) (by omega) rfl).2) ht8 htr hnx hws (q + nq))
                        refine ⟨v, ops, rfl, ownsInts_base hops (Nat.le_trans (Nat.le_succ _) hst.2.2.2), ⟨fun _ => ?_, fun h => ?_⟩, hst.2.2.1.trans (hbel.mono (Nat.le_trans (Nat.le_succ _) hst.2.2.2))⟩
                        · have e : dist.toNat = rows.length := by rw [HDI.out, ← HRL2.out]; simp
                          rw [e]; exact hpath
                        · have := HRL2.out
                          rw [← HDI.out, HRL.out] at this
                          omega
                      · have hg2' : (t : Int) - kz < (B.length : Int) := by omega
                        have hg1 : (A.length : Int) ≤ (t : Int) := by omega
                        have HJN : Hid (XJ (EI A B) A.length B.length lim d (s + 1) (X.set (ix lim kz) (t : Int))) := XJ_store HXJ.out hdl HXL.out HK.out hsd HFR.out (fun h => by omega)
                        have HKN : Hid (kz + 2 = 2 * ((s + 1 : Nat) : Int) - d) := by
                          show kz + 2 = 2 * ((s + 1 : Nat) : Int) - d
                          omega
                        have HLN : Hid ((X.set (ix lim kz) (t : Int)).length = 2 * lim + 3) := by
                          show (X.set (ix lim kz) (t : Int)).length = 2 * lim + 3
                          rw [List.length_set]; exact HXL.out
                        go_wp2
                        go_roundw
                        case rel => exact ⟨s + 1, kz + 2, X.set (ix lim kz) (t : Int), by omega, rfl, HKN, (store_x (k := ix lim kz) (t := t) hX (by rw [HXL.out]; exact (nat_idx (k := kz) (N := 2 * lim + 3) rfl (by omega) (by omega) rfl).2) ht8 htr hnx hws _).1, HLN, HJN, (store_x (k := ix lim kz) (t := t) hX (by rw [HXL.out]; exact (nat_idx (k := kz) (N := 2 * lim + 3) rfl (by omega) (by omega) rfl).2) ht8 htr hnx hws _).2.1, (store_x (k := ix lim kz) (t := t) hX (by rw [HXL.out]; exact (nat_idx (k := kz) (N := 2 * lim + 3) rfl (by omega) (by omega) rfl).2) ht8 htr hnx hws _).2.2.1, (store_x (k := ix lim kz) (t := t) hX (by rw [HXL.out]; exact (nat_idx (k := kz) (N := 2 * lim + 3) rfl (by omega) (by omega) rfl).2) ht8 htr hnx hws _).2.2.2⟩
                        case measure => simp [intOf]; omega
        · have hse : s = d + 1 := by omega
          subst hse
          obtain ⟨hxi, hdn⟩ := XJ_end HXJ.out (by rw [← HDI.out]; exact hdd)
          rw [← HDI.out] at hdn
          have HXI2 : Hid (XI (EI A B) lim (d + 1) X) := hxi
          clear hxi
          have hkgt : (d : Int) < kz := by omega
          go_wp2_with (at_make; refine wpList_make_own _ rfl _ _ 22 rfl wr.heap.size 3 i0 (.int .i64 0) 1 Try.underlying22 hi0 hz0 hz1 _ _ _ (d + 1) rfl rfl (by omega) (by rw [hz2]; omega) (by unfold maxLen; omega) (Nat.le_refl _) ?_; intro w3 hown3 hgrow3)
          obtain ⟨wi, rfl⟩ : ∃ wi : World, wi = wr := ⟨_, rfl⟩
          have hb3 : Below wi.heap.size wi w3 := (Below.refl _ _).grown hgrow3 (Nat.le_refl _) (fun j hj => by cases hj)
          clear hgrow3
          go_loopw [14, 15] (fun rv kv wr => ∃ (s : Nat) (kz : Int), s ≤ d + 1 ∧ rv = .slice (some ⟨wi.heap.size, 0, none⟩) s (d + 1) ∧ kv = .int .i64 kz ∧ Hid (kz = 2 * (s : Int) - d) ∧ wr.ownsRow wi.heap.size 3 1 (.slice (some ⟨wi.heap.size, 0, none⟩) s (d + 1)) s ((rowTo lim d X s).map (Value.int .i64)) ∧ Below wi.heap.size wi wr) (fun _ kv _ => (2 + (d : Int) - intOf kv).toNat)
          case atStart => exact ⟨0, -(d : Int), Nat.zero_le _, rfl, rfl, (show -(d : Int) = 2 * ((0 : Nat) : Int) - d by omega), hown3, hb3⟩
          case round =>
            clear hown3 hb3 hkgt hk1 hk2 HK hs
            obtain ⟨s, kz, hs, rfl, rfl, HK, hrow, hbr⟩ := hrel
            have hk1 : 2 * (s : Int) - d ≤ kz := by have := HK.out; omega
            have hk2 : kz ≤ 2 * (s : Int) - d := by have := HK.out; omega
            have hszr := hbr.size
            by_cases hsd2 : s ≤ d
            · have hkd : kz ≤ (d : Int) := by omega
              have hX2 := ownsInts_later hX hbr
              have hidx := (nat_idx (k := kz) (N := 2 * lim + 3) rfl (by omega) (by omega) rfl).2
              have ixk := index_at hX2.1 22 Try.sl22 Try.ce22 ((lim : Int) + 1 + kz) (ix lim kz) (nat_idx rfl (by omega) (by omega) rfl).1 (by rw [HXL.out]; exact hidx)
              have cxk := cell_int hX2 (ix lim kz) (by rw [HXL.out]; exact hidx)
              have HRS : Hid (rowTo lim d X (s + 1) = rowTo lim d X s ++ [nth X (ix lim kz)]) := by
                show rowTo lim d X (s + 1) = _
                rw [rowTo_succ, HK.out]
              clear hX2 hidx
              go_wp2_with (at_builtin; refine wpList_append_fits _ rfl _ _ 22 rfl wi.heap.size 3 i0 1 Try.underlying22 hi0 hz1 wi.heap.size s (d + 1) ((rowTo lim d X s).map (Value.int .i64)) rfl (hrow.alloc _) ⟨wr.heap.size, 0, none⟩ 1 1 [.int .i64 (nth X (ix lim kz))] rfl rfl (cell_new _ _ rfl _ _) (ints_oneCell .i64 [nth X (ix lim kz)]) (by omega) ?_; intro w5 hown5 hgrow5)
              have hb5 : Below wi.heap.size wi w5 := (hbr.alloc hszr _).grown hgrow5 (by simp; omega) (fun j hj => by cases hj; exact Nat.le_refl _)
              go_roundw
              case rel =>
                refine ⟨s + 1, kz + 2, by omega, rfl, rfl, (show kz + 2 = 2 * ((s + 1 : Nat) : Int) - d by omega), ?_, hb5⟩
                rw [HRS.out, List.map_append]
                exact hown5
              case measure => simp [intOf]; omega
            · have hse2 : s = d + 1 := by omega
              subst hse2
              have hkgt : (d : Int) < kz := by omega
              have hX2 := ownsInts_later hX hbr
              have htr2 := htr.later hbr
              obtain ⟨vs, hvs1, hvs2⟩ := htr2
              have hbw : Below w.heap.size w wr := hnx.trans (hbr.mono hnx.size)
              have hrw : wr.ownsInts (w.heap.size + 1) 3 .i64 (.slice (some ⟨wi.heap.size, 0, none⟩) (d + 1) (d + 1)) (rowTo lim d X (d + 1)) := by
                refine ownsInts_base (b' := wi.heap.size) ⟨by rw [rowTo_len]; exact hrow, fun z hz => ?_⟩ hws
                obtain ⟨t, ht, rfl⟩ := List.mem_map.1 hz
                have ht' : t < d + 1 := by simpa using ht
                exact wf_nth hX2 _ (by rw [HXL.out]; exact (nat_idx (k := 2 * (t : Int) - d) (N := 2 * lim + 3) rfl (by omega) (by omega) rfl).2)
              have hvl : rows.length ≤ 1001 := by rw [HRL.out]; omega
              clear hrow
              go_wp2_with (at_builtin; refine wpList_append_own _ rfl _ _ 40 rfl (w.heap.size + 1) 22 i2 (.slice none 0 0) 1 24 Try.underlying40 hi2 hy0 hy1 hy2 rfl (by decide) u10 rows.length vs rfl (hvs1.alloc _) ⟨wr.heap.size, 0, none⟩ 1 1 [.slice (some ⟨wi.heap.size, 0, none⟩) (d + 1) (d + 1)] rfl rfl (cell_new _ _ rfl _ _) (fun u hu => by simp at hu; subst hu; rfl) (by unfold maxLen; omega) (by omega) (by simp; omega) ?_; intro v6 w6 hown6 hgrow6 _)
              have htr6 := TR.snoc hvs1 hvs2 hrw hown6 hgrow6
              have hall := (World.grownBy_alloc wr _ _).trans hgrow6
              have hX6 : w6.ownsInts w.heap.size 3 .i64 (.slice (some ⟨w.heap.size, 0, none⟩) (2 * lim + 3) (2 * lim + 3)) X := hX2.kept hall (tags_apart hX2.1 hvs1 (by decide))
              have hb6 := below_app hbw hvs1 (Nat.le_succ _) hbw.size _ hgrow6
              have HRO2 : Hid (RowsOK (EI A B) (rows ++ [rowTo lim d X (d + 1)])) := by
                have h1 := RowsOK_snoc (lim := lim) (X := X) HRO.out (by rw [HRL.out]; exact HXI2.out)
                rw [HRL.out] at h1
                exact h1
              have HRL2 : Hid ((rows ++ [rowTo lim d X (d + 1)]).length = d + 1) := by
                show (rows ++ [rowTo lim d X (d + 1)]).length = d + 1
                rw [List.length_append, HRL.out]; rfl
              have hsz6 : w.heap.size + 1 ≤ w6.heap.size := Nat.le_trans hws (Nat.le_trans hszr hall.size)
              go_roundw
              case rel => exact ⟨d + 1, X, _, by omega, by go_num, hX6, HXL, HXI2, htr6, HRL2, HRO2, hdn, hb6, hsz6⟩
              case measure => simp [intOf]; omega
    · have hde : d = lim + 1 := by omega
      subst hde
      have hbig : 1000 < dist := by
        rcases HLM.out with h | h
        · omega
        · omega
      clear hX HXL HXI htr HRL HRO
      have HBIG : Hid (1000 < dist) := hbig
      have hdgt : (lim : Int) < ((lim + 1 : Nat) : Int) := by omega
      clear hbig
      go_wp2_with (at_make; refine wpList_make_own _ rfl _ _ 25 rfl w.heap.size 39 i9 (.int .i64 0) 1 Try.underlying25 hi9 hx0 hx1 _ _ _ (A.length + B.length) rfl rfl (by omega) (by rw [hx2]; omega) (by unfold maxLen; omega) (by omega) ?_; intro w3 hown3 hgrow3)
      have hb3 : Below w.heap.size w w3 := hnx.grown hgrow3 (by omega) (fun j hj => by cases hj)
      obtain ⟨wo, rfl⟩ : ∃ wo : World, wo = wr := ⟨_, rfl⟩
      clear hgrow3
      go_loopw [16, 157] (fun ov kv wr => ∃ k : Nat, k ≤ A.length ∧ kv = .int .i64 k ∧ wr.ownsInts w.heap.size 39 .i64 ov (List.replicate k 1) ∧ Below w.heap.size w wr) (fun _ kv _ => A.length - (intOf kv).toNat)
      case atStart => exact ⟨0, Nat.zero_le _, rfl, ⟨hown3, by simp⟩, hb3⟩
      case round =>
        clear hown3 hb3 hnx hws
        obtain ⟨k, hk, rfl, ho, hnx⟩ := hrel
        have hsz := hnx.size
        by_cases hkl : k < A.length
        · go_wp2_with (at_builtin; refine wpList_append_own _ rfl _ _ 25 rfl w.heap.size 39 i9 (.int .i64 0) 1 8 Try.underlying25 hi9 hx0 hx1 hx2 rfl (by decide) u16 (List.replicate k (1 : Int)).length ((List.replicate k (1 : Int)).map (Value.int .i64)) rfl (ho.1.alloc _) ⟨wr.heap.size, 0, none⟩ 1 1 [.int .i64 1] rfl rfl (cell_new _ _ rfl _ _) (ints_oneCell .i64 [1]) (by rw [List.length_replicate]; unfold maxLen; omega) (by rw [List.length_replicate]; omega) (by simp; omega) ?_; intro v1 w1 hown1 hgrow1 _)
          have hr3 := ho.appended hown1 (by decide)
          have hnx3 := below_app hnx ho.1 (Nat.le_refl _) hsz _ hgrow1
          rw [← List.replicate_succ'] at hr3
          go_roundw
          case rel => exact ⟨k + 1, by omega, by go_num, hr3, hnx3⟩
          case measure => simp [intOf]; omega
        · have hke : k = A.length := by omega
          subst hke
          go_wp2
          obtain ⟨wp, rfl⟩ : ∃ wp : World, wp = wr := ⟨_, rfl⟩
          go_loopw [16, 164] (fun ov kv wr => ∃ k : Nat, k ≤ B.length ∧ kv = .int .i64 k ∧ wr.ownsInts w.heap.size 39 .i64 ov (whole A.length k) ∧ Below w.heap.size w wr) (fun _ kv _ => B.length - (intOf kv).toNat)
          case atStart => exact ⟨0, Nat.zero_le _, rfl, by simpa [whole] using ho, hnx⟩
          case round =>
            clear ho hnx hsz
            obtain ⟨k, hk, rfl, ho, hnx⟩ := hrel
            have hsz := hnx.size
            have HWL : Hid ((whole A.length k).length = A.length + k) := whole_len _ _
            by_cases hkl : k < B.length
            · go_wp2_with (at_builtin; refine wpList_append_own _ rfl _ _ 25 rfl w.heap.size 39 i9 (.int .i64 0) 1 8 Try.underlying25 hi9 hx0 hx1 hx2 rfl (by decide) u16 (whole A.length k).length ((whole A.length k).map (Value.int .i64)) rfl (ho.1.alloc _) ⟨wr.heap.size, 0, none⟩ 1 1 [.int .i64 2] rfl rfl (cell_new _ _ rfl _ _) (ints_oneCell .i64 [2]) (by rw [HWL.out]; unfold maxLen; omega) (by rw [HWL.out]; omega) (by simp; omega) ?_; intro v1 w1 hown1 hgrow1 _)
              have hr3 := ho.appended hown1 (by decide)
              have hnx3 := below_app hnx ho.1 (Nat.le_refl _) hsz _ hgrow1
              have HWS : Hid (whole A.length (k + 1) = whole A.length k ++ [2]) := by
                show whole A.length (k + 1) = _
                unfold whole
                rw [List.replicate_succ', List.append_assoc]
              go_roundw
              case rel => exact ⟨k + 1, by omega, by go_num, by rw [HWS.out]; exact hr3, hnx3⟩
              case measure => simp [intOf]; omega
            · have hke : k = B.length := by omega
              subst hke
              go_wp2
              go_ret
              exact ⟨_, _, rfl, ho, ⟨fun h => absurd HBIG.out (by omega), fun _ => rfl⟩, hnx⟩

end Go.Proofs.Qxb6605460a
