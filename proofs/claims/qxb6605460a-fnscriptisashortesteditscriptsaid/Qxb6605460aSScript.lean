/-
  The seat b6605460a: script (F19), ZZScript (F11).
-/
import Derived.Test.Qxb6605460aSNum
import Derived.Test.Qxb6605460aSRep
import Derived.Test.Qxb6605460aSearch
import Derived.Deep.RegionWith
import Derived.Laws.OwnMore
namespace Go.Proofs.Qxb6605460a
open Go.RowKit Go.Maps

theorem mk_map (w : World) : (Instr.makeMap 42 none).run Try.prog w = .ok (.map (some w.heap.size)) (w.alloc (.map #[] 0)) := by
  simp [Instr.makeMap, Result.andThen]

/-- What script hands back. -/
def Made (A B ops : List Int) : Prop := ∃ p s na nb mid, IsPre A B p ∧ IsSuf A B p s ∧ Mid A B na nb p s ∧ ops = join p s mid ∧ Short (EI na nb) na.length nb.length (Plain.D (EI na nb) na.length nb.length) mid

theorem wrap_small {x : Int} (h : -9223372036854775808 ≤ x ∧ x ≤ 9223372036854775807) : IntKind.i64.wrap x = x := by
  rw [IntKind.wrap_i64]
  omega

theorem grown_then {W X w' : World} {row : Option Nat} (hb : Below W.heap.size W X) (hg : X.grownBy w' row) : W.grownBy w' row := by
  refine ⟨hg.os.trans hb.os, hg.tape.trans hb.tape, hg.output.trans hb.output, Nat.le_trans hb.size hg.size, fun k hk hne => ?_⟩
  have := hb.size
  rw [hg.block k (by omega) hne, hb.block k hk]

/-- A call of 'number', in whatever world that has what W has. -/
theorem gen_num (W : World) (u : Value) (A : List Int) (bx bm N : Nat) (f : Int → Option Nat) (hA : SC W u A) (hl : A.length ≤ 4096) (hbox : W.cell? ⟨bx, 0, none⟩ = some (.map (some bm))) (hm : MI W bm N f) (hids : Ids f N) (hN : N ≤ 8192)
    (hsm : ∀ i, i < A.length → ∀ s, code s = nth A i → s.size ≤ maxLen) (X : World) (hX : Below W.heap.size W X) :
    Calls Try.prog 21 #[u, .pointer (some ⟨bx, 0, none⟩)] X fun e w' => ∃ v na N' f', e = .returned v ∧ w'.ownsInts 0 3 .i64 v na ∧ MI w' bm N' f' ∧ Num A na N N' f f' A.length ∧ W.grownBy w' (some bm) := by
  refine (num_any u A bx bm N f X (hA.later hX) hl ?_ (hm.kept (grown_of_below hX) (by simp)) hids hN hsm).mono ?_
  · rw [hX.cell (block_lt hbox)]; exact hbox
  · rintro e w' ⟨v, na, N', f', rfl, h1, h2, h3, h4⟩
    exact ⟨v, na, N', f', rfl, ownsInts_base h1 (Nat.zero_le _), h2, h3, grown_then hX h4⟩

/-- A call of 'shortest', in whatever world that has what W has. -/
theorem gen_short (W : World) (va vb : Value) (A B : List Int) {b1 b2 : Nat} (ha : W.ownsInts b1 3 .i64 va A) (hb : W.ownsInts b2 3 .i64 vb B) (hA : A.length ≤ 4096) (hB : B.length ≤ 4096) (X : World) (hX : Below W.heap.size W X) :
    Calls Try.prog 15 #[va, vb] X fun e w' => ∃ v ops, e = .returned v ∧ w'.ownsInts 0 39 .i64 v ops ∧ Short (EI A B) A.length B.length (Plain.D (EI A B) A.length B.length) ops ∧ Below W.heap.size W w' := by
  refine (short_any va vb A B X (ownsInts_later ha hX) (ownsInts_later hb hX) hA hB).mono ?_
  rintro e w' ⟨v, ops, rfl, h1, h2, h3⟩
  exact ⟨v, ops, rfl, ownsInts_base h1 (Nat.zero_le _), h2, hX.trans (h3.mono hX.size)⟩

theorem box_facts (w : World) (q : Nat) : let W := ((w.drewN q).alloc (.map #[] 0)).alloc (.cells #[.map (some w.heap.size)] 42)
    MI W w.heap.size 0 (fun _ => none) ∧ W.cell? ⟨w.heap.size + 1, 0, none⟩ = some (.map (some w.heap.size)) ∧ Below w.heap.size w W := by
  intro W
  refine ⟨(MI.made (w.drewN q)).kept (World.grownBy_alloc _ _ none) (by simp), ?_, ?_⟩
  · have h := cell_one_new ((w.drewN q).alloc (.map #[] 0)) (.map (some w.heap.size)) 42 0 _ rfl
    have e : ((w.drewN q).alloc (.map #[] 0)).heap.size = w.heap.size + 1 := by simp
    rw [e] at h
    exact h
  · exact ((below_drewN (Below.refl w.heap.size w) q).alloc (by simp) _).alloc (by simp) _

theorem part_len {A : List Int} {k j : Nat} (h : k + j ≤ A.length) : ((A.take (A.length - j)).drop k).length = A.length - j - k := by
  rw [List.length_drop, List.length_take, Nat.min_eq_left (by omega)]
theorem part_at {A : List Int} {k j i : Nat} (h : k + j ≤ A.length) (hi : i < A.length - j - k) : nth ((A.take (A.length - j)).drop k) i = nth A (k + i) := by
  simp only [nth, List.getD, List.getElem?_drop, List.getElem?_take]
  rw [if_pos (by omega)]

theorem mid_of {A B na nb : List Int} {k j N1 N2 : Nat} {f1 f2 : Int → Option Nat} (hA : k + j ≤ A.length) (hB : k + j ≤ B.length)
    (h1 : Num ((A.take (A.length - j)).drop k) na 0 N1 (fun _ => none) f1 ((A.take (A.length - j)).drop k).length) (h2 : Num ((B.take (B.length - j)).drop k) nb N1 N2 f1 f2 ((B.take (B.length - j)).drop k).length) : Mid A B na nb k j := by
  have e1 := h1.len
  have e2 := h2.len
  rw [part_len hA] at e1
  rw [part_len hB] at e2
  refine ⟨by omega, by omega, fun a b ha hb => ?_⟩
  obtain ⟨x, hx1, hx2⟩ := h1.num a (by rw [part_len hA]; omega)
  obtain ⟨y, hy1, hy2⟩ := h2.num b (by rw [part_len hB]; omega)
  rw [part_at hA (by omega)] at hx2
  rw [part_at hB (by omega)] at hy2
  have hx3 := h2.ext _ _ hx2
  constructor
  · intro e
    have : x = y := by rw [hx1, hy1] at e; omega
    subst this
    exact h2.ids.2 _ _ _ hx3 hy2
  · intro e
    rw [e] at hx3
    rw [hx3] at hy2
    have : x = y := by simpa using hy2
    rw [hx1, hy1, this]

theorem short_len {E : Nat → Nat → Bool} {n m : Nat} {d : Int} {ops : List Int} (h : Short E n m d ops) : ops.length ≤ n + m := by
  by_cases hd : d ≤ 1000
  · have := Plain.path_len (h.1 hd); omega
  · rw [h.2 (by omega), whole_len]; exact Nat.le_refl _

theorem append_mid {w : World} {B b2 : Nat} {v vm : Value} {xs mid : List Int} (hv : w.ownsInts B 39 .i64 v xs) (hm : w.ownsInts b2 39 .i64 vm mid) (hlen : xs.length + mid.length ≤ 65536) (hB : B ≤ w.heap.size) :
    ∃ v' w', (Builtin.append_ #[25, 25] 25 #[v, vm]).run Try.prog w = .ok v' w' ∧ w'.ownsInts B 39 .i64 v' (xs ++ mid) ∧ Below B w w' := by
  obtain ⟨i0, hi0, hz0, hz1, hz2⟩ := info_parts Try.info39
  have hwf : ∀ z ∈ xs ++ mid, (Lit.int .i64 z).wf = true := fun z hz => by
    rcases List.mem_append.1 hz with h | h
    · exact hv.2 z h
    · exact hm.2 z h
  rcases hm.1.2 with ⟨rfl, h0⟩ | ⟨g, cap, cur, rfl, hbg, hg, hnc, hcm, hcs, htake⟩
  · have hmid : mid = [] := List.eq_nil_of_length_eq_zero h0
    subst hmid
    exact ⟨v, w, run_append_owned_none (P := Try.prog) (w := w) B 25 25 39 i0 1 Try.underlying25 hi0 v _ _ hv.1, by simpa using hv, Below.refl _ _⟩
  · obtain ⟨v', w', hr, ho, hgr, _⟩ := run_append_own (P := Try.prog) w B 25 25 39 i0 (.int .i64 0) 1 8 Try.underlying25 hi0 hz0 hz1 hz2 rfl (by decide) v xs.length (xs.map (Value.int .i64)) hv.1 ⟨g, 0, none⟩ mid.length cap (mid.map (Value.int .i64)) (by simp) (hm.1.cells (g := g) rfl) (ints_oneCell .i64 mid) (by unfold maxLen; omega) (by omega) hB
    exact ⟨v', w', hr, ⟨by simpa using ho, hwf⟩, (Below.refl _ _).grown hgr hB (fun k hk => (hv.1.lt k hk).1)⟩

theorem wpList_append_mid {w : World} {ops : Array Oper} {rest : List Oper} {o : Oper} {a : Act} {Q : Exit → Act → World → Prop} (hgd : o.guard = none) (s x : Operand)
    (ho : o.op = .call { callee := .builtin .append, args := #[s, x], argTypes := #[25, 25] }) (hty : o.type = 25) (v vm v' : Value) (w' : World) (hs : a.eval s = v) (hx : a.eval x = vm)
    (hrun : (Builtin.append_ #[25, 25] 25 #[v, vm]).run Try.prog w = .ok v' w') (h : wpList Try.prog ops Q rest (a.put o.dst v') w') : wpList Try.prog ops Q (o :: rest) a w := by
  refine wpList_plain hgd fun K hK' => ?_
  unfold Oper.wp
  simp [execOp, ho, resolve, invoke, builtin, hs, hx, hty, hrun, Result.andThen]
  exact hK' _ _ h

theorem bel_all {w W w1 w2 w3 : World} (hbW : Below w.heap.size w W) (h1d : W.grownBy w1 (some w.heap.size)) (h2d : w1.grownBy w2 (some w.heap.size)) (h3c : Below w2.heap.size w2 w3) : Below w.heap.size w w3 := by
  have s1 := hbW.size
  have s2 := h1d.size
  have s3 := h2d.size
  exact ((hbW.grown h1d hbW.size (fun j hj => by cases hj; exact Nat.le_refl _)).grown h2d (by omega) (fun j hj => by cases hj; exact Nat.le_refl _)).trans (h3c.mono (by omega))

/-- The script under way, behind a name that the walk does not open. -/
def jo (k t : Nat) (mid : List Int) : List Int := join k t mid
theorem jo_zero {k : Nat} {mid : List Int} : jo k 0 mid = List.replicate k 0 ++ mid := by simp [jo, join]
theorem jo_len {k t : Nat} {mid : List Int} : (jo k t mid).length = k + mid.length + t := by simp [jo, join]; omega
theorem jo_succ {k t : Nat} {mid : List Int} : jo k (t + 1) mid = jo k t mid ++ [0] := by
  unfold jo join
  rw [List.replicate_succ', ← List.append_assoc]

set_option maxHeartbeats 3000000 in
set_option maxRecDepth 100000 in
theorem script_any (va vb : Value) (A B : List Int) (w : World) (ha : SC w va A) (hb : SC w vb B) (hA : A.length ≤ 4096) (hB : B.length ≤ 4096)
    (hsa : ∀ i, i < A.length → ∀ s, code s = nth A i → s.size ≤ maxLen) (hsb : ∀ i, i < B.length → ∀ s, code s = nth B i → s.size ≤ maxLen) :
    Calls Try.prog 19 #[va, vb] w fun e w' => ∃ v ops, e = .returned v ∧ w'.ownsInts w.heap.size 39 .i64 v ops ∧ Made A B ops ∧ Below w.heap.size w w' := by
  obtain ⟨p, hp⟩ := exists_pre A B
  obtain ⟨s, hs⟩ := exists_suf hp
  have HSA : Hid (∀ i, i < A.length → ∀ s, code s = nth A i → s.size ≤ maxLen) := hsa
  have HSB : Hid (∀ i, i < B.length → ∀ s, code s = nth B i → s.size ≤ maxLen) := hsb
  clear hsa hsb
  have a1 : p + s ≤ A.length := hs.la
  have b1 : p + s ≤ B.length := hs.lb
  have hna := ha.len
  have hnb := hb.len
  have hmk := mk_map
  go_enter Try.func19, Try.ntmps19
  go_wp2
  go_loopw [5] (fun pv wr => ∃ k q : Nat, k ≤ p ∧ pv = .int .i64 k ∧ wr = w.drewN q) (fun pv _ => p - (intOf pv).toNat)
  case atStart => exact ⟨0, 0, Nat.zero_le _, rfl, rfl⟩
  case round =>
    obtain ⟨k, q, hk, rfl, rfl⟩ := hrel
    go_upto_region 2 with fail
    go_cut [31] from 11 to 33 (fun c wx => c = .bool (decide (k < p)) ∧ ∃ q' : Nat, wx = w.drewN q')
    case first =>
      by_cases hlt : k < p
      · have HD : Hid (decide (k < p) = true) := decide_eq_true hlt
        have ixa := ha.index _ k rfl (by omega)
        have ixb := hb.index _ k rfl (by omega)
        obtain ⟨sa, ca, hsa⟩ := ha.cell k (by omega)
        obtain ⟨sb, cb, hsb⟩ := hb.cell k (by omega)
        have hq := eqs hsa hsb (hp.eq k hlt)
        have h1 : k < A.length := by omega
        have h2 : k < B.length := by omega
        clear hsa hsb
        go_quiet (fail)
        go_wp2
        go_meet
        case rel => exact ⟨bool_of HD.out, q + nq, by simp⟩
      · have HD : Hid (decide (k < p) = false) := decide_eq_false hlt
        have hkp : k = p := by omega
        by_cases h1 : k < A.length
        · have g1 : decide ((k : Int) < (A.length : Int)) = true := by simp; omega
          by_cases h2 : k < B.length
          · have ixa := ha.index _ k rfl (by omega)
            have ixb := hb.index _ k rfl (by omega)
            obtain ⟨sa, ca, hsa⟩ := ha.cell k (by omega)
            obtain ⟨sb, cb, hsb⟩ := hb.cell k (by omega)
            have hq := neqs hsa hsb (by rw [hkp]; exact hp.stop (by omega) (by omega))
            have g2 : decide ((k : Int) < (B.length : Int)) = true := by simp; omega
            clear hsa hsb hkp hlt
            go_quiet (fail)
            go_wp2
            go_meet
            case rel => exact ⟨bool_of HD.out, q + nq, by simp⟩
          · have g2 : decide ((k : Int) < (B.length : Int)) = false := by simp; omega
            clear hkp hlt
            go_quiet (fail)
            go_wp2
            go_meet
            case rel => exact ⟨bool_of HD.out, q + nq, by simp⟩
        · have g1 : decide ((k : Int) < (A.length : Int)) = false := by simp; omega
          clear hkp hlt
          go_quiet (fail)
          go_wp2
          go_meet
          case rel => exact ⟨bool_of HD.out, q + nq, by simp⟩
    case rest =>
      obtain ⟨rfl, q', rfl⟩ := hcut
      by_cases hlt : k < p
      · have hd : decide (k < p) = true := decide_eq_true hlt
        rw [hd]
        clear hd
        go_wp2
        go_roundw
        case rel => exact ⟨k + 1, q', by omega, by go_num, rfl⟩
        case measure => simp [intOf]; omega
      · have hd : decide (k < p) = false := decide_eq_false hlt
        rw [hd]
        obtain rfl : k = p := by omega
        clear hd hlt hk
        go_wp2
        go_loopw [6] (fun sv wr => ∃ j q : Nat, j ≤ s ∧ sv = .int .i64 j ∧ wr = w.drewN q) (fun sv _ => s - (intOf sv).toNat)
        case atStart => exact ⟨0, _, Nat.zero_le _, rfl, rfl⟩
        case round =>
          obtain ⟨j, q2, hj, rfl, rfl⟩ := hrel
          go_upto_region 5 with fail
          go_cut [66] from 34 to 68 (fun c wx => c = .bool (decide (j < s)) ∧ ∃ q' : Nat, wx = w.drewN q')
          case first =>
            by_cases hlt : j < s
            · have HD : Hid (decide (j < s) = true) := decide_eq_true hlt
              have ixa := ha.index ((A.length : Int) - 1 - j) (A.length - 1 - j) (by omega) (by omega)
              have ixb := hb.index ((B.length : Int) - 1 - j) (B.length - 1 - j) (by omega) (by omega)
              obtain ⟨sa, ca, hsa⟩ := ha.cell (A.length - 1 - j) (by omega)
              obtain ⟨sb, cb, hsb⟩ := hb.cell (B.length - 1 - j) (by omega)
              have hq := eqs hsa hsb (hs.eq j hlt)
              have g1 : decide ((j : Int) < (A.length : Int) - k) = true := by simp; omega
              have g2 : decide ((j : Int) < (B.length : Int) - k) = true := by simp; omega
              clear hsa hsb
              go_quiet (fail)
              go_wp2
              go_meet
              case rel => exact ⟨bool_of HD.out, q2 + nq, by simp⟩
            · have HD : Hid (decide (j < s) = false) := decide_eq_false hlt
              have hjs : j = s := by omega
              by_cases h1 : (j : Int) < (A.length : Int) - k
              · have g1 : decide ((j : Int) < (A.length : Int) - k) = true := by simp; omega
                by_cases h2 : (j : Int) < (B.length : Int) - k
                · have ixa := ha.index ((A.length : Int) - 1 - j) (A.length - 1 - j) (by omega) (by omega)
                  have ixb := hb.index ((B.length : Int) - 1 - j) (B.length - 1 - j) (by omega) (by omega)
                  obtain ⟨sa, ca, hsa⟩ := ha.cell (A.length - 1 - j) (by omega)
                  obtain ⟨sb, cb, hsb⟩ := hb.cell (B.length - 1 - j) (by omega)
                  have hq := neqs hsa hsb (by rw [hjs]; exact hs.stop (by omega) (by omega))
                  have g2 : decide ((j : Int) < (B.length : Int) - k) = true := by simp; omega
                  clear hsa hsb hjs hlt
                  go_quiet (fail)
                  go_wp2
                  go_meet
                  case rel => exact ⟨bool_of HD.out, q2 + nq, by simp⟩
                · have g2 : decide ((j : Int) < (B.length : Int) - k) = false := by simp; omega
                  clear hjs hlt
                  go_quiet (fail)
                  go_wp2
                  go_meet
                  case rel => exact ⟨bool_of HD.out, q2 + nq, by simp⟩
              · have g1 : decide ((j : Int) < (A.length : Int) - k) = false := by simp; omega
                clear hjs hlt
                go_quiet (fail)
                go_wp2
                go_meet
                case rel => exact ⟨bool_of HD.out, q2 + nq, by simp⟩
          case rest =>
            obtain ⟨rfl, q3, rfl⟩ := hcut
            by_cases hlt : j < s
            · have hd : decide (j < s) = true := decide_eq_true hlt
              rw [hd]
              clear hd
              go_wp2
              go_roundw
              case rel => exact ⟨j + 1, q3, by omega, by go_num, rfl⟩
              case measure => simp [intOf]; omega
            · have hd : decide (j < s) = false := decide_eq_false hlt
              rw [hd]
              obtain rfl : j = s := by omega
              clear hd hlt hj
              go_upto_region 9 with fail
              obtain ⟨u1, hc1, hu1⟩ := ha.cut (k : Int) (IntKind.i64.wrap ((A.length : Int) - j)) k (A.length - j) rfl (by rw [wrap_small (by omega)]; omega) (by omega) (by omega)
              obtain ⟨u2, hc2, hu2⟩ := hb.cut (k : Int) (IntKind.i64.wrap ((B.length : Int) - j)) k (B.length - j) rfl (by rw [wrap_small (by omega)]; omega) (by omega) (by omega)
              obtain ⟨hmW, hbxW, hbW⟩ := box_facts w q3
              obtain ⟨W, hW⟩ : ∃ W, W = ((w.drewN q3).alloc (.map #[] 0)).alloc (.cells #[.map (some w.heap.size)] 42) := ⟨_, rfl⟩
              rw [← hW] at hmW hbxW hbW ⊢
              have hu1 := hu1.later (w' := W) hbW
              have hu2 := hu2.later (w' := W) hbW
              have la1 : Hid (((A.take (A.length - j)).drop k).length ≤ 4096) := by show _ ≤ 4096; rw [part_len a1]; omega
              have lb1 : Hid (((B.take (B.length - j)).drop k).length ≤ 4096) := by show _ ≤ 4096; rw [part_len b1]; omega
              have sa1 : Hid (∀ i, i < ((A.take (A.length - j)).drop k).length → ∀ s, code s = nth ((A.take (A.length - j)).drop k) i → s.size ≤ maxLen) := fun i hi s hs => HSA.out (k + i) (by rw [part_len a1] at hi; omega) s (by rw [hs]; exact part_at a1 (by rw [part_len a1] at hi; exact hi))
              have sb1 : Hid (∀ i, i < ((B.take (B.length - j)).drop k).length → ∀ s, code s = nth ((B.take (B.length - j)).drop k) i → s.size ≤ maxLen) := fun i hi s hs => HSB.out (k + i) (by rw [part_len b1] at hi; omega) s (by rw [hs]; exact part_at b1 (by rw [part_len b1] at hi; exact hi))
              have MOF : Hid (∀ na nb N1 N2 f1 f2, Num ((A.take (A.length - j)).drop k) na 0 N1 (fun _ => none) f1 ((A.take (A.length - j)).drop k).length → Num ((B.take (B.length - j)).drop k) nb N1 N2 f1 f2 ((B.take (B.length - j)).drop k).length → Mid A B na nb k j) := fun na nb N1 N2 f1 f2 h1 h2 => mid_of a1 b1 h1 h2
              generalize (A.take (A.length - j)).drop k = A1 at *
              generalize (B.take (B.length - j)).drop k = B1 at *
              clear hW hmk
              have tokA : True := trivial
              go_cut [9] from 71 to 89 (fun s9 wx => ∃ na nb mid, Mid A B na nb k j ∧ Short (EI na nb) na.length nb.length (Plain.D (EI na nb) na.length nb.length) mid ∧ wx.ownsInts 0 39 .i64 s9 mid ∧ Below w.heap.size w wx)
              case first =>
                go_region_with (first
                  | (go_at_call 21
                     have _t := tokA
                     refine (gen_num W u1 A1 (w.heap.size + 1) w.heap.size 0 (fun _ => none) hu1 la1.out hbxW hmW ids_none (by omega) sa1.out _ ?_).mono ?_
                     exact ⟨rfl, rfl, rfl, Nat.le_refl _, fun _ _ => rfl⟩
                     rintro e w1 ⟨x1, na, N1, f1, rfl, h1a, h1b, h1c, h1d⟩
                     clear tokA
                     have hs2 := SC.keptM hmW h1d hu2
                     have hbx2 := cell_kept hmW h1d hbxW
                     have hN1 : N1 ≤ 8192 := (by have h9 := h1c.le; have h8 := la1.out; omega))
                  | (go_at_call 21
                     refine (gen_num w1 u2 B1 (w.heap.size + 1) w.heap.size N1 f1 hs2 lb1.out hbx2 h1b h1c.ids hN1 sb1.out _ ?_).mono ?_
                     exact ⟨rfl, rfl, rfl, Nat.le_refl _, fun _ _ => rfl⟩
                     rintro e w2 ⟨x2, nb, N2, f2, rfl, h2a, h2b, h2c, h2d⟩
                     have h2e := owns_keptM h1b h2d h1a
                     have hmd := MOF.out _ _ _ _ _ _ h1c h2c)
                  | (go_at_call 15
                     refine (gen_short w2 x1 x2 na nb h2e h2a (by have := hmd.la; omega) (by have := hmd.lb; omega) _ ?_).mono ?_
                     exact ⟨rfl, rfl, rfl, Nat.le_refl _, fun _ _ => rfl⟩
                     rintro e w3 ⟨x3, mid, rfl, h3a, h3b, h3c⟩))
                all_goals (go_wp2_with fail; go_meet; exact ⟨na, nb, mid, hmd, h3b, h3a, bel_all hbW h1d h2d h3c⟩)
              case rest =>
                clear hu1 hu2 hc1 hc2 hmW hbxW hbW la1 lb1 sa1 sb1 MOF tokA HSA HSB
                obtain ⟨na, nb, mid, hmd, hsh, hmo, hbc⟩ := hcut
                obtain ⟨i9, hi9, hx0, hx1, hx2⟩ := info_parts Try.info39
                have hlm := len_eq (P := Try.prog) hmo.1 25 Try.sl25
                have hml : mid.length ≤ 8192 := by have h1 := short_len hsh; have h2 := hmd.la; have h3 := hmd.lb; omega
                have HFIN : Hid (Made A B (join k j mid)) := ⟨k, j, na, nb, mid, hp, hs, hmd, rfl, hsh⟩
                clear hmd hsh hp hs
                have hbs := hbc.size
                go_wp2_with (at_make; refine wpList_make_own _ rfl _ _ 25 rfl wc.heap.size 39 i9 (.int .i64 0) 1 Try.underlying25 hi9 hx0 hx1 _ _ _ (k + mid.length + j) rfl rfl (by omega) (by rw [hx2]; omega) (by unfold maxLen; omega) (Nat.le_refl _) ?_; intro w3 hown3 hgrow3)
                have hb3 : Below wc.heap.size wc w3 := (Below.refl _ _).grown hgrow3 (Nat.le_refl _) (fun j hj => by cases hj)
                clear hgrow3
                go_loopw [10, 98] (fun ov tv wr => ∃ t : Nat, t ≤ k ∧ tv = .int .i64 t ∧ wr.ownsInts wc.heap.size 39 .i64 ov (List.replicate t 0) ∧ Below wc.heap.size wc wr) (fun _ tv _ => k - (intOf tv).toNat)
                case atStart => exact ⟨0, Nat.zero_le _, rfl, ⟨hown3, by simp⟩, hb3⟩
                case round =>
                  clear hown3 hb3
                  obtain ⟨t, ht, rfl, ho, hnx⟩ := hrel
                  have hsz := hnx.size
                  by_cases hkl : t < k
                  · go_wp2_with (at_builtin; refine wpList_append_own _ rfl _ _ 25 rfl wc.heap.size 39 i9 (.int .i64 0) 1 8 Try.underlying25 hi9 hx0 hx1 hx2 rfl (by decide) u10 (List.replicate t (0 : Int)).length ((List.replicate t (0 : Int)).map (Value.int .i64)) rfl (ho.1.alloc _) ⟨wr.heap.size, 0, none⟩ 1 1 [.int .i64 0] rfl rfl (cell_new _ _ rfl _ _) (ints_oneCell .i64 [0]) (by rw [List.length_replicate]; unfold maxLen; omega) (by rw [List.length_replicate]; omega) (by simp; omega) ?_; intro v1 w1 hown1 hgrow1 _)
                    have hr3 := ho.appended hown1 (by decide)
                    have hnx3 := below_app hnx ho.1 (Nat.le_refl _) hsz _ hgrow1
                    rw [← List.replicate_succ'] at hr3
                    go_roundw
                    case rel => exact ⟨t + 1, by omega, by go_num, hr3, hnx3⟩
                    case measure => simp [intOf]; omega
                  · obtain rfl : k = t := by omega
                    obtain ⟨v4, w4, hap, ho4, hb4⟩ := append_mid ho (ownsInts_later hmo hnx) (by rw [List.length_replicate]; omega) hsz
                    have hnx4 := hnx.trans hb4
                    have hsz4 := hnx4.size
                    have HO : Hid (w4.ownsInts wc.heap.size 39 .i64 v4 (jo k 0 mid)) := by show w4.ownsInts wc.heap.size 39 .i64 v4 (jo k 0 mid); rw [jo_zero]; exact ho4
                    have HAP : Hid ((Builtin.append_ #[25, 25] 25 #[u10, u9]).run Try.prog wr = .ok v4 w4) := hap
                    clear ho ho4 hb4 hnx hsz hap
                    go_wp2_with (at_builtin; refine wpList_append_mid rfl _ _ rfl rfl u10 u9 v4 w4 rfl rfl HAP.out ?_)
                    clear HAP
                    go_loopw [10, 108] (fun ov tv wr => ∃ t : Nat, t ≤ j ∧ tv = .int .i64 t ∧ wr.ownsInts wc.heap.size 39 .i64 ov (jo k t mid) ∧ Below wc.heap.size wc wr) (fun _ tv _ => j - (intOf tv).toNat)
                    case atStart => exact ⟨0, Nat.zero_le _, rfl, HO.out, hnx4⟩
                    case round =>
                      clear HO hnx4 hsz4
                      obtain ⟨t2, ht2, rfl, ho, hnx⟩ := hrel
                      have hsz := hnx.size
                      have HJL : Hid ((jo k t2 mid).length = k + mid.length + t2) := jo_len
                      by_cases hkl2 : t2 < j
                      · go_wp2_with (at_builtin; refine wpList_append_own _ rfl _ _ 25 rfl wc.heap.size 39 i9 (.int .i64 0) 1 8 Try.underlying25 hi9 hx0 hx1 hx2 rfl (by decide) u10 (jo k t2 mid).length ((jo k t2 mid).map (Value.int .i64)) rfl (ho.1.alloc _) ⟨wr.heap.size, 0, none⟩ 1 1 [.int .i64 0] rfl rfl (cell_new _ _ rfl _ _) (ints_oneCell .i64 [0]) (by rw [HJL.out]; unfold maxLen; omega) (by rw [HJL.out]; omega) (by simp; omega) ?_; intro v1 w1 hown1 hgrow1 _)
                        have hr3 := ho.appended hown1 (by decide)
                        have hnx3 := below_app hnx ho.1 (Nat.le_refl _) hsz _ hgrow1
                        have HJS : Hid (jo k (t2 + 1) mid = jo k t2 mid ++ [0]) := jo_succ
                        go_roundw
                        case rel => exact ⟨t2 + 1, by omega, by go_num, by rw [HJS.out]; exact hr3, hnx3⟩
                        case measure => simp [intOf]; omega
                      · obtain rfl : j = t2 := by omega
                        go_wp2
                        go_ret
                        exact ⟨_, _, rfl, ownsInts_base ho hbs, HFIN.out, hbc.trans (hnx.mono hbs)⟩

set_option maxHeartbeats 400000 in
theorem zzscript_any (va vb : Value) (A B : List Int) (w : World) (ha : SC w va A) (hb : SC w vb B) (hA : A.length ≤ 4096) (hB : B.length ≤ 4096)
    (hsa : ∀ i, i < A.length → ∀ s, code s = nth A i → s.size ≤ maxLen) (hsb : ∀ i, i < B.length → ∀ s, code s = nth B i → s.size ≤ maxLen) :
    Calls Try.prog 11 #[va, vb] w fun e w' => ∃ v ops, e = .returned v ∧ w'.ownsInts w.heap.size 39 .i64 v ops ∧ Made A B ops ∧ Below w.heap.size w w' := by
  go_enter Try.func11, Try.ntmps11
  go_wp2_with (go_at_call 19; refine (script_any va vb A B _ ha hb hA hB hsa hsb).mono ?_; rintro e w' ⟨v, ops, rfl, h1, h2, h3⟩)
  go_ret
  exact ⟨v, ops, rfl, h1, h2, h3⟩

end Go.Proofs.Qxb6605460a
