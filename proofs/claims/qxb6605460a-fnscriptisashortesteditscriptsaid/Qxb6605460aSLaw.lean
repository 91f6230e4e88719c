/-
  The seat b6605460a: zzBytes (F9), FnScriptIsAShortestEditScript (F4).
-/
import Derived.Test.Qxb6605460aSScript
import Derived.Test.Qxb6605460aSCopy
import Derived.Test.Qxb6605460aSLcs
import Derived.Test.Qxb6605460aSWalk
namespace Go.Proofs.Qxb6605460a
open Go.RowKit Go.Maps

set_option maxHeartbeats 1500000 in
set_option maxRecDepth 100000 in
theorem sbytes_any (va vb : Value) (A B : List Int) (w : World) (ha : SC w va A) (hb : SC w vb B) (hA : A.length ≤ 9223372036854775807) (hB : B.length ≤ 9223372036854775807) :
    Calls Try.prog 9 #[va, vb] w fun e w' => ∃ b, e = .returned (.bool b) ∧ w = w' := by
  have hna := ha.len
  have hnb := hb.len
  by_cases t0 : A.length ≤ 1048576
  · go_enter Try.func9, Try.ntmps9
    go_wp2
    go_loopw [5, 6] (fun zv xv wr => ∃ x z : Nat, x ≤ A.length ∧ z ≤ 1048576 ∧ xv = .int .i64 x ∧ zv = .int .i64 z ∧ w = wr) (fun _ xv _ => A.length - (intOf xv).toNat)
    case atStart => exact ⟨0, A.length, Nat.zero_le _, by omega, rfl, by go_num, rfl⟩
    case round =>
      obtain ⟨x, z, hx, hz, rfl, rfl, rfl⟩ := hrel
      by_cases hlt : x < A.length
      · have ix := ha.index _ x rfl hlt
        obtain ⟨sx, cx, hcx⟩ := ha.cell x hlt
        clear hcx
        by_cases g1 : sx.size ≤ 1048576
        · by_cases g2 : z + sx.size ≤ 1048576
          · go_wp2
            go_roundw
            case rel => exact ⟨x + 1, z + sx.size, by omega, g2, by go_num, by go_num, trivial⟩
            case measure => simp [intOf]; omega
          · go_wp2
            go_ret
            exact ⟨false, rfl, rfl⟩
        · go_wp2
          go_ret
          exact ⟨false, rfl, rfl⟩
      · obtain rfl : A.length = x := by omega
        clear hlt hx
        by_cases t1 : B.length ≤ 1048576
        · by_cases t2 : z + B.length ≤ 1048576
          · go_wp2
            go_loopw [5, 7] (fun zv xv wr => ∃ x z : Nat, x ≤ B.length ∧ z ≤ 1048576 ∧ xv = .int .i64 x ∧ zv = .int .i64 z ∧ w = wr) (fun _ xv _ => B.length - (intOf xv).toNat)
            case atStart => exact ⟨0, z + B.length, Nat.zero_le _, t2, rfl, by go_num, rfl⟩
            case round =>
              obtain ⟨x, z, hx, hz, rfl, rfl, rfl⟩ := hrel
              by_cases hlt : x < B.length
              · have ix := hb.index _ x rfl hlt
                obtain ⟨sx, cx, hcx⟩ := hb.cell x hlt
                clear hcx
                by_cases g1 : sx.size ≤ 1048576
                · by_cases g2 : z + sx.size ≤ 1048576
                  · go_wp2
                    go_roundw
                    case rel => exact ⟨x + 1, z + sx.size, by omega, g2, by go_num, by go_num, trivial⟩
                    case measure => simp [intOf]; omega
                  · go_wp2
                    go_ret
                    exact ⟨false, rfl, rfl⟩
                · go_wp2
                  go_ret
                  exact ⟨false, rfl, rfl⟩
              · obtain rfl : B.length = x := by omega
                clear hlt hx
                go_wp2
                go_ret
                exact ⟨true, rfl, rfl⟩
          · go_wp2
            go_ret
            exact ⟨false, rfl, rfl⟩
        · go_wp2
          go_ret
          exact ⟨false, rfl, rfl⟩
  · go_enter Try.func9, Try.ntmps9
    go_wp2
    go_ret
    exact ⟨false, rfl, rfl⟩

theorem made_walk {A B ops : List Int} (h : Made A B ops) (hd : Plain.D (EI A B) A.length B.length ≤ 1000) : Plain.Path (EI A B) A.length B.length ops 0 0 (Plain.D (EI A B) A.length B.length).toNat := by
  obtain ⟨p, s, na, nb, mid, hp, hs, hm, rfl, hsh⟩ := h
  rw [mid_D hp hs hm] at hd ⊢
  exact mid_path hp hs hm (hsh.1 hd)
theorem made_whole {A B ops : List Int} (h : Made A B ops) (hd : 1000 < Plain.D (EI A B) A.length B.length) : ∃ p s n' m', IsPre A B p ∧ IsSuf A B p s ∧ p + n' + s = A.length ∧ p + m' + s = B.length ∧ ops = join p s (whole n' m') := by
  obtain ⟨p, s, na, nb, mid, hp, hs, hm, rfl, hsh⟩ := h
  rw [mid_D hp hs hm] at hd
  exact ⟨p, s, na.length, nb.length, hp, hs, hm.la, hm.lb, by rw [hsh.2 hd]⟩

/-- The law's last part: what stands behind the copies. -/
theorem small_codes {zs : List ByteArray} (h : ∀ s ∈ zs, s.size ≤ maxLen) (n : Nat) : ∀ i, i < (cs (zs.take n)).length → ∀ s, code s = nth (cs (zs.take n)) i → s.size ≤ maxLen := by
  intro i hi s hs
  rw [cs_len] at hi
  rw [cs_at hi] at hs
  have := code_inj hs
  subst this
  rw [sth_eq hi]
  exact h _ (List.mem_of_mem_take (List.getElem_mem hi))

set_option maxHeartbeats 3000000 in
set_option maxRecDepth 100000 in
theorem slaw_walk (a0 a1 : Option Addr) (n0 c0 n1 c1 : Nat) (z0 z1 : List ByteArray) (w : World) (r0 : RowS w a0 n0 c0 z0) (r1 : RowS w a1 n1 c1 z1) (s0 : ∀ s ∈ z0, s.size ≤ maxLen) (s1 : ∀ s ∈ z1, s.size ≤ maxLen) :
    Calls Try.prog 4 #[.slice a0 n0 c0, .slice a1 n1 c1] w fun e w' => e = .returned (.bool true) ∧ Below w.heap.size w w' := by
  obtain ⟨m0, l0⟩ := r0.max
  obtain ⟨m1, l1⟩ := r1.max
  have ha := r0.sc
  have hb := r1.sc
  have SA := small_codes s0 n0
  have SB := small_codes s1 n1
  have eA : (cs (z0.take n0)).length = n0 := by rw [cs_len]; exact l0
  have eB : (cs (z1.take n1)).length = n1 := by rw [cs_len]; exact l1
  have HC0 : Hid (n0 ≤ 4096 → Calls Try.prog 10 #[.slice a0 n0 c0] w fun e w' => ∃ v, e = .returned v ∧ SC w' v (cs (z0.take n0)) ∧ Below w.heap.size w w') := fun h => scopy_any a0 n0 c0 z0 w (by omega) r0
  have HC1 : Hid (n1 ≤ 4096 → ∀ w1, Below w.heap.size w w1 → Calls Try.prog 10 #[.slice a1 n1 c1] w1 fun e w' => ∃ v, e = .returned v ∧ SC w' v (cs (z1.take n1)) ∧ Below w1.heap.size w1 w') := fun h w1 hbl => scopy_any a1 n1 c1 z1 w1 (by omega) (r1.later hbl)
  clear r0 r1 l0 l1 s0 s1
  generalize cs (z0.take n0) = A at *
  generalize cs (z1.take n1) = B at *
  have HA : Hid (A.length = n0) := eA
  have HB : Hid (B.length = n1) := eB
  have la1 : A.length ≤ n0 := by omega
  have la2 : n0 ≤ A.length := by omega
  have lb1 : B.length ≤ n1 := by omega
  have lb2 : n1 ≤ B.length := by omega
  have HSA : Hid (∀ i, i < A.length → ∀ s, code s = nth A i → s.size ≤ maxLen) := SA
  have HSB : Hid (∀ i, i < B.length → ∀ s, code s = nth B i → s.size ≤ maxLen) := SB
  clear eA eB SA SB
  have HBY : Hid (Calls Try.prog 9 #[.slice a0 n0 c0, .slice a1 n1 c1] w fun e w' => ∃ b, e = .returned (.bool b) ∧ w = w') := sbytes_any _ _ A B w ha hb (by omega) (by omega)
  by_cases t0 : n0 ≤ 4096
  · by_cases t1 : n1 ≤ 4096
    · go_enter Try.func4, Try.ntmps4
      go_upto_region 1 with fail
      go_cut [15] from 12 to 15 (fun c wx => (∃ b : Bool, c = .bool b) ∧ w = wx)
      case first =>
        go_wp2_with (go_at_call 9; refine Calls.mono HBY.out ?_; rintro e w' ⟨b, rfl, rfl⟩)
        go_meet
        case rel => exact ⟨⟨_, rfl⟩, rfl⟩
      case rest =>
        obtain ⟨⟨b, rfl⟩, rfl⟩ := hcut
        cases b with
        | true =>
          go_wp2
          go_ret
          exact ⟨rfl, Below.refl _ _⟩
        | false =>
          go_wp2
          go_loopw [5, 6] (fun zv xv wr => ∃ x z : Nat, x ≤ A.length ∧ z ≤ 1048576 ∧ xv = .int .i64 x ∧ zv = .int .i64 z ∧ w = wr) (fun _ xv _ => A.length - (intOf xv).toNat)
          case atStart => exact ⟨0, 16 * n0 + 16 * n1, Nat.zero_le _, by omega, rfl, by go_num, rfl⟩
          case round =>
            obtain ⟨x, z, hx, hz, rfl, rfl, rfl⟩ := hrel
            by_cases hlt : x < A.length
            · have ix := ha.index _ x rfl hlt
              obtain ⟨sx, cx, hcx⟩ := ha.cell x hlt
              clear hcx
              by_cases g1 : sx.size ≤ 1048576
              · by_cases g2 : z + sx.size ≤ 1048576
                · go_wp2
                  go_roundw
                  case rel => exact ⟨x + 1, z + sx.size, by omega, g2, by go_num, by go_num, trivial⟩
                  case measure => simp [intOf]; omega
                · go_wp2
                  go_ret
                  exact ⟨rfl, Below.refl _ _⟩
              · go_wp2
                go_ret
                exact ⟨rfl, Below.refl _ _⟩
            · obtain rfl : A.length = x := by omega
              clear hlt hx
              go_wp2
              go_loopw [5, 7] (fun zv xv wr => ∃ x z : Nat, x ≤ B.length ∧ z ≤ 1048576 ∧ xv = .int .i64 x ∧ zv = .int .i64 z ∧ w = wr) (fun _ xv _ => B.length - (intOf xv).toNat)
              case atStart => exact ⟨0, z, Nat.zero_le _, by omega, rfl, by go_num, rfl⟩
              case round =>
                obtain ⟨x, z, hx, hz, rfl, rfl, rfl⟩ := hrel
                by_cases hlt : x < B.length
                · have ix := hb.index _ x rfl hlt
                  obtain ⟨sx, cx, hcx⟩ := hb.cell x hlt
                  clear hcx
                  by_cases g1 : sx.size ≤ 1048576
                  · by_cases g2 : z + sx.size ≤ 1048576
                    · go_wp2
                      go_roundw
                      case rel => exact ⟨x + 1, z + sx.size, by omega, g2, by go_num, by go_num, trivial⟩
                      case measure => simp [intOf]; omega
                    · go_wp2
                      go_ret
                      exact ⟨rfl, Below.refl _ _⟩
                  · go_wp2
                    go_ret
                    exact ⟨rfl, Below.refl _ _⟩
                · obtain rfl : B.length = x := by omega
                  clear hlt hx
                  have tokA : True := trivial
                  have HT0 : Hid (n0 ≤ 4096) := t0
                  have HT1 : Hid (n1 ≤ 4096) := t1
                  obtain ⟨L, hL⟩ : ∃ L, Plain.Lc (EI A B) A.length B.length = L := ⟨_, rfl⟩
                  have hLle := (Plain.Lc_le (EI A B) A.length B.length).1
                  have hLle2 := (Plain.Lc_le (EI A B) A.length B.length).2
                  rw [hL] at hLle hLle2
                  have HLC : Hid (∀ w' va vb, SC w' va A → SC w' vb B → Calls Try.prog 12 #[va, vb] w' fun e w'' => e = .returned (.int .i64 (L : Int)) ∧ Below w'.heap.size w' w'') := fun w' va vb h1 h2 => by
                    have := slcs_any va vb A B w' h1 h2 (by omega) (by omega)
                    rw [hL] at this
                    exact this
                  have hDL : Plain.D (EI A B) A.length B.length = (A.length : Int) + B.length - 2 * (L : Int) := by unfold Plain.D; rw [hL]
                  have HW : Hid (∀ ops, Made A B ops → (A.length : Int) + B.length - 2 * (L : Int) ≤ 1000 → Plain.Path (EI A B) A.length B.length ops 0 0 ((A.length : Int) + B.length - 2 * (L : Int)).toNat) := fun ops hm hd => by
                    have := made_walk hm (by rw [hDL]; exact hd)
                    rw [hDL] at this
                    exact this
                  have HR : Hid (∀ ops, Made A B ops → 1000 < (A.length : Int) + B.length - 2 * (L : Int) → ∃ p s n' m', IsPre A B p ∧ IsSuf A B p s ∧ p + n' + s = A.length ∧ p + m' + s = B.length ∧ ops = join p s (whole n' m')) := fun ops hm hd => made_whole hm (by rw [hDL]; exact hd)
                  clear hL hDL
                  by_cases hd : (A.length : Int) + B.length - 2 * (L : Int) ≤ 1000
                  · obtain ⟨cc, hcc⟩ : ∃ cc : Nat, cc = ((A.length : Int) + B.length - 2 * (L : Int)).toNat := ⟨_, rfl⟩
                    have HP : Hid (∀ ops, Made A B ops → Plain.Path (EI A B) A.length B.length ops 0 0 cc) := fun ops hm => by
                      rw [hcc]; exact HW.out ops hm hd
                    have hq : ((cc : Int) == (A.length : Int) + B.length - 2 * (L : Int)) = true := by rw [beq_iff_eq]; omega
                    have hccb : cc ≤ 4194304 := by omega
                    clear hcc HW HR
                    go_wp2_with (first
                      | (go_at_call 10; have _t := tokA; refine Calls.mono (HC0.out HT0.out) ?_; rintro e w1 ⟨va, rfl, hsa, hb1⟩; clear tokA)
                      | (go_at_call 10; refine Calls.mono (HC1.out HT1.out _ hb1) ?_; rintro e w2 ⟨vb, rfl, hsb, hb2⟩; have hsa2 := hsa.later hb2; have hlA := hsa2.len; have hlB := hsb.len)
                      | (go_at_call 11; refine (zzscript_any va vb A B _ hsa2 hsb (by omega) (by omega) HSA.out HSB.out).mono ?_; rintro e w3 ⟨vo, ops, rfl, hoo, hmd, hb3⟩; have hsa3 := hsa2.later hb3; have hsb3 := hsb.later hb3)
                      | (go_at_call 12; refine Calls.mono (HLC.out _ va vb hsa3 hsb3) ?_; rintro e w4 ⟨rfl, hb4⟩; have hsa4 := hsa3.later hb4; have hsb4 := hsb3.later hb4; have hoo4 := ownsInts_later hoo hb4)
                      | (go_at_call 13; refine (swalk_any vo va vb ops A B cc _ hoo4 hsa4 hsb4 (by omega) (by omega) (HP.out ops hmd) hccb).mono ?_; rintro e w5 ⟨rfl, q, rfl⟩))
                    go_ret
                    exact ⟨rfl, below_drewN (((hb1.trans (hb2.mono hb1.size)).trans (hb3.mono (Nat.le_trans hb1.size hb2.size))).trans (hb4.mono (Nat.le_trans (Nat.le_trans hb1.size hb2.size) hb3.size))) q⟩
                  · have hd' : 1000 < (A.length : Int) + B.length - 2 * (L : Int) := by omega
                    have HP : Hid (∀ ops, Made A B ops → ∃ p s n' m', IsPre A B p ∧ IsSuf A B p s ∧ p + n' + s = A.length ∧ p + m' + s = B.length ∧ ops = join p s (whole n' m')) := fun ops hm => HR.out ops hm hd'
                    clear hd HW HR
                    go_wp2_with (first
                      | (go_at_call 10; have _t := tokA; refine Calls.mono (HC0.out HT0.out) ?_; rintro e w1 ⟨va, rfl, hsa, hb1⟩; clear tokA)
                      | (go_at_call 10; refine Calls.mono (HC1.out HT1.out _ hb1) ?_; rintro e w2 ⟨vb, rfl, hsb, hb2⟩; have hsa2 := hsa.later hb2; have hlA := hsa2.len; have hlB := hsb.len)
                      | (go_at_call 11; refine (zzscript_any va vb A B _ hsa2 hsb (by omega) (by omega) HSA.out HSB.out).mono ?_; rintro e w3 ⟨vo, ops, rfl, hoo, hmd, hb3⟩; have hsa3 := hsa2.later hb3; have hsb3 := hsb.later hb3)
                      | (go_at_call 12; refine Calls.mono (HLC.out _ va vb hsa3 hsb3) ?_; rintro e w4 ⟨rfl, hb4⟩; have hsa4 := hsa3.later hb4; have hsb4 := hsb3.later hb4; have hoo4 := ownsInts_later hoo hb4)
                      | (go_at_call 14; obtain ⟨p, s, n', m', h1, h2, h3, h4, h5⟩ := HP.out ops hmd; refine (rep_any vo va vb A B p s n' m' _ (by rw [← h5]; exact hoo4) hsa4 hsb4 h1 h2 h3 h4 (by omega) (by omega)).mono ?_; clear h1 h2 h3 h4 h5; rintro e w5 ⟨rfl, q, rfl⟩))
                    go_ret
                    exact ⟨rfl, below_drewN (((hb1.trans (hb2.mono hb1.size)).trans (hb3.mono (Nat.le_trans hb1.size hb2.size))).trans (hb4.mono (Nat.le_trans (Nat.le_trans hb1.size hb2.size) hb3.size))) q⟩
    · clear HC0 HC1
      go_enter Try.func4, Try.ntmps4
      go_upto_region 1 with fail
      go_cut [15] from 12 to 15 (fun c wx => (∃ b : Bool, c = .bool b) ∧ w = wx)
      case first =>
        go_wp2_with (go_at_call 9; refine Calls.mono HBY.out ?_; rintro e w' ⟨b, rfl, rfl⟩)
        go_meet
        case rel => exact ⟨⟨_, rfl⟩, rfl⟩
      case rest =>
        obtain ⟨⟨b, rfl⟩, rfl⟩ := hcut
        cases b with
        | true =>
          go_wp2
          go_ret
          exact ⟨rfl, Below.refl _ _⟩
        | false =>
          go_wp2
          go_ret
          exact ⟨rfl, Below.refl _ _⟩
  · clear HC0 HC1
    go_enter Try.func4, Try.ntmps4
    go_upto_region 1 with fail
    go_cut [15] from 12 to 15 (fun c wx => (∃ b : Bool, c = .bool b) ∧ w = wx)
    case first =>
      go_wp2_with (go_at_call 9; refine Calls.mono HBY.out ?_; rintro e w' ⟨b, rfl, rfl⟩)
      go_meet
      case rel => exact ⟨⟨_, rfl⟩, rfl⟩
    case rest =>
      obtain ⟨⟨b, rfl⟩, rfl⟩ := hcut
      cases b with
      | true =>
        go_wp2
        go_ret
        exact ⟨rfl, Below.refl _ _⟩
      | false =>
        go_wp2
        go_ret
        exact ⟨rfl, Below.refl _ _⟩

end Go.Proofs.Qxb6605460a
