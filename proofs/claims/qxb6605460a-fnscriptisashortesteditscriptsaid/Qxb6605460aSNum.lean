/-
  The seat b6605460a: the closure 'number' of script (F21): lines get numbers, equal lines the same.
-/
import Derived.Test.Qxb6605460aSLaws
import Derived.Maps.OwnSet
import Derived.Maps.Views
namespace Go.Proofs.Qxb6605460a
open Go.RowKit Go.Maps Go.WideElems Go.MapKept

theorem law9 : Keyed Try.prog 9 := string_keyed Try.underlying9
theorem zero3 (w : World) : (zeroValue 3).run Try.prog w = .ok (.int .i64 0) w := by kernel_rfl
def key (s : ByteArray) : Lit := .string s.data.toList
theorem key_of {s : ByteArray} (h : s.size ≤ maxLen) : keyOf Try.prog 9 (.string s) = some (key s) := by
  rw [keyOf_string Try.underlying9]
  simp [mapKey, Try.underlying9, key, h]
theorem key_inj {a b : ByteArray} (h : key a = key b) : a = b := by
  simp only [key, Lit.string.injEq] at h
  cases a with
  | mk x => cases b with
    | mk y => congr 1; exact Array.toList_inj.1 h

/-- Block b is the map that gives each line's number. -/
def MI (w : World) (b N : Nat) (f : Int → Option Nat) : Prop :=
  ∃ D : DataW Unit, w.ownsMap Try.prog 9 (plainElem Try.prog 3) b N D ∧ Maps.size D = N ∧
    ∀ s : ByteArray, s.size ≤ maxLen → (f (code s) = none → Maps.has D (key s) = false) ∧ ∀ n, f (code s) = some n → Maps.has D (key s) = true ∧ D.atKey (key s) (.lit (.int .i64 0)) = .lit (.int .i64 (n : Int))

def Ids (f : Int → Option Nat) (N : Nat) : Prop := (∀ x n, f x = some n → n < N) ∧ ∀ x y n, f x = some n → f y = some n → x = y

theorem MI.lt {w : World} {b N : Nat} {f : Int → Option Nat} (h : MI w b N f) : b < w.heap.size := by
  obtain ⟨D, h1, _⟩ := h; exact h1.lt
theorem MI.kept {w w' : World} {b N : Nat} {f : Int → Option Nat} {row : Option Nat} (h : MI w b N f) (hg : w.grownBy w' row) (hne : some b ≠ row) : MI w' b N f := by
  obtain ⟨D, h1, h2⟩ := h; exact ⟨D, h1.kept hg hne, h2⟩
theorem MI.made (w : World) : MI (w.alloc (.map #[] 0)) w.heap.size 0 (fun _ => none) :=
  ⟨.map [], World.ownsMap_made _ _ _ _, rfl, fun s _ => ⟨fun _ => rfl, fun n h => by cases h⟩⟩
theorem ids_none : Ids (fun _ => none) 0 := ⟨fun x n h => (by cases h), fun x y n h => (by cases h)⟩

theorem MI.look_some {w : World} {b N n : Nat} {f : Int → Option Nat} (h : MI w b N f) {s : ByteArray} (hz : s.size ≤ maxLen) (hs : f (code s) = some n) :
    (Instr.lookup 42 (.map (some b)) (.string s) true).run Try.prog w = .ok (.tuple #[.int .i64 (n : Int), .bool true]) w := by
  obtain ⟨D, h1, h2, h3⟩ := h
  obtain ⟨v, ps, hrun, hv⟩ := h1.look_ok law9 Try.underlying42 (zero3 w) (plainElem_int (H := Unit) Try.underlying3 (a := 0) (by decide)) (key_of hz)
  obtain ⟨hh, ha⟩ := (h3 s hz).2 n hs
  rw [ha] at hv
  obtain ⟨c, rfl, hc, _⟩ := plainElem_int_inv Try.underlying3 hv
  have : (n : Int) = c := by simpa using congrArg Prod.fst hc
  rw [hrun, hh, this]

theorem MI.look_none {w : World} {b N : Nat} {f : Int → Option Nat} (h : MI w b N f) {s : ByteArray} (hz : s.size ≤ maxLen) (hs : f (code s) = none) :
    ∃ c, (Instr.lookup 42 (.map (some b)) (.string s) true).run Try.prog w = .ok (.tuple #[.int .i64 c, .bool false]) w := by
  obtain ⟨D, h1, h2, h3⟩ := h
  obtain ⟨v, ps, hrun, hv⟩ := h1.look_ok law9 Try.underlying42 (zero3 w) (plainElem_int (H := Unit) Try.underlying3 (a := 0) (by decide)) (key_of hz)
  obtain ⟨c, rfl, hc, _⟩ := plainElem_int_inv Try.underlying3 hv
  exact ⟨c, by rw [hrun, (h3 s hz).1 hs]⟩

theorem MI.len {w : World} {b N : Nat} {f : Int → Option Nat} (h : MI w b N f) (ty : TypeId) : (Builtin.len_ #[42] ty #[.map (some b)]).run Try.prog w = .ok (.int .i64 (N : Int)) w := by
  obtain ⟨D, h1, h2, _⟩ := h
  rw [h1.len Try.underlying42 ty, h2]

theorem MI.put {w : World} {b N : Nat} {f : Int → Option Nat} (h : MI w b N f) {s : ByteArray} (hz : s.size ≤ maxLen) (hs : f (code s) = none) (hN : N ≤ 65536) :
    ∃ w', (Instr.mapUpdate 42 (.map (some b)) (.string s) (.int .i64 (N : Int))).run Try.prog w = .ok () w' ∧ MI w' b (N + 1) (fun x => if x = code s then some N else f x) ∧ w.grownBy w' (some b) := by
  obtain ⟨D, h1, h2, h3⟩ := h
  have ht := h1.tidy law9
  obtain ⟨w', hrun, ho, hg⟩ := h1.update law9 Try.underlying42 (by unfold maxLen; omega) (key_of hz) (plainElem_int (H := Unit) Try.underlying3 (a := (N : Int)) (WalkArith.wf_i64 (by omega)))
  refine ⟨w', hrun, ⟨_, ho, ?_, fun t htz => ?_⟩, hg⟩
  · rw [size_put ht, (h3 s hz).1 hs, h2]; rfl
  · by_cases e : code t = code s
    · obtain rfl := code_inj e
      refine ⟨fun h => by simp at h, fun n hn => ?_⟩
      simp at hn
      subst hn
      exact ⟨has_put_same ht.isMap (k := key t) trivial _, atKey_put_same ht.isMap (k := key t) trivial _ _⟩
    · have hne : key t ≠ key s := fun h => e (by rw [key_inj h])
      show ((if code t = code s then some N else f (code t)) = none → _) ∧ ∀ n, (if code t = code s then some N else f (code t)) = some n → _
      rw [if_neg e, has_put_other hne, atKey_put_other hne]
      exact h3 t htz

theorem ids_put {f : Int → Option Nat} {N : Nat} (h : Ids f N) {x : Int} : Ids (fun y => if y = x then some N else f y) (N + 1) := by
  refine ⟨fun y n hn => ?_, fun y z n hy hz => ?_⟩
  · by_cases e : y = x
    · simp [e] at hn; omega
    · simp [e] at hn; have := h.1 y n hn; omega
  · by_cases e1 : y = x
    · by_cases e2 : z = x
      · rw [e1, e2]
      · simp [e1] at hy; simp [e2] at hz; have := h.1 z n hz; omega
    · by_cases e2 : z = x
      · simp [e2] at hz; simp [e1] at hy; have := h.1 y n hy; omega
      · simp [e1] at hy; simp [e2] at hz; exact h.2 y z n hy hz

/-- A cell does not lie in a map's block. -/
theorem cell_not_map {w : World} {b N : Nat} {f : Int → Option Nat} (h : MI w b N f) {a : Addr} {v : Value} (hc : w.cell? a = some v) : a.block ≠ b := by
  obtain ⟨D, ⟨es, clock, hb, _⟩, _⟩ := h
  intro e
  unfold World.cell? at hc
  rw [e, hb] at hc
  cases hc

theorem cell_kept {w w' : World} {b N : Nat} {f : Int → Option Nat} (h : MI w b N f) (hg : w.grownBy w' (some b)) {a : Addr} {v : Value} (hc : w.cell? a = some v) : w'.cell? a = some v := by
  have h1 := cell_not_map h hc
  have h2 := hg.block a.block (block_lt hc) (by simpa using h1)
  unfold World.cell? at hc ⊢
  rw [h2]; exact hc

theorem SC.keptM {w w' : World} {b N : Nat} {f : Int → Option Nat} (h : MI w b N f) (hg : w.grownBy w' (some b)) {v : Value} {A : List Int} (hs : SC w v A) : SC w' v A := by
  rcases hs with hs | ⟨x, cap, h1, h2, h5⟩
  · exact Or.inl hs
  · refine Or.inr ⟨x, cap, h1, h2, fun i hi => ?_⟩
    obtain ⟨s, hc, hcd⟩ := h5 i hi
    exact ⟨s, cell_kept h hg hc, hcd⟩

theorem owns_keptM {w w' : World} {b N base : Nat} {f : Int → Option Nat} {e : TypeId} {q : IntKind} {v : Value} {zs : List Int} (h : MI w b N f) (hg : w.grownBy w' (some b)) (ho : w.ownsInts base e q v zs) : w'.ownsInts base e q v zs := by
  refine ho.kept hg ?_
  rcases ho.1.2 with ⟨rfl, _⟩ | ⟨g, cap, cur, rfl, _, hh, _⟩
  · exact Or.inl rfl
  · refine Or.inr ?_
    obtain ⟨D, ⟨es, clock, hb, _⟩, _⟩ := h
    intro e
    simp only [Value.ownBlock, Option.some.injEq] at e
    subst e
    rw [hh] at hb
    cases hb

/-- What the numbering has done after k lines. -/
structure Num (A ns : List Int) (N N1 : Nat) (f f1 : Int → Option Nat) (k : Nat) : Prop where
  len : ns.length = A.length
  ids : Ids f1 N1
  le : N1 ≤ N + k
  ext : ∀ x n, f x = some n → f1 x = some n
  num : ∀ i, i < k → ∃ n : Nat, nth ns i = (n : Int) ∧ f1 (nth A i) = some n

theorem Num.hit {A ns : List Int} {N N1 : Nat} {f f1 : Int → Option Nat} {k n : Nat} (h : Num A ns N N1 f f1 k) (hk : k < A.length) (hf : f1 (nth A k) = some n) : Num A (ns.set k (n : Int)) N N1 f f1 (k + 1) := by
  refine ⟨by rw [List.length_set]; exact h.len, h.ids, by have := h.le; omega, h.ext, fun i hi => ?_⟩
  by_cases e : i = k
  · subst e; exact ⟨n, nth_set_eq _ (by rw [h.len]; exact hk), hf⟩
  · obtain ⟨m, h1, h2⟩ := h.num i (by omega)
    exact ⟨m, by rw [nth_set_ne _ (fun e' => e e'.symm)]; exact h1, h2⟩

theorem Num.new {A ns : List Int} {N N1 : Nat} {f f1 : Int → Option Nat} {k : Nat} (h : Num A ns N N1 f f1 k) (hk : k < A.length) (hf : f1 (nth A k) = none) : Num A (ns.set k (N1 : Int)) N (N1 + 1) f (fun y => if y = nth A k then some N1 else f1 y) (k + 1) := by
  have old : ∀ x n, f1 x = some n → (if x = nth A k then some N1 else f1 x) = some n := by
    intro x n hx
    by_cases e : x = nth A k
    · rw [e] at hx; rw [hf] at hx; cases hx
    · rw [if_neg e]; exact hx
  refine ⟨by rw [List.length_set]; exact h.len, ids_put h.ids, by have := h.le; omega, fun x n hx => old x n (h.ext x n hx), fun i hi => ?_⟩
  by_cases e : i = k
  · subst e; exact ⟨N1, nth_set_eq _ (by rw [h.len]; exact hk), by simp⟩
  · obtain ⟨m, h1, h2⟩ := h.num i (by omega)
    exact ⟨m, by rw [nth_set_ne _ (fun e' => e e'.symm)]; exact h1, old _ _ h2⟩

theorem grown_some {w w' w'' : World} {b : Nat} {row : Option Nat} (h1 : w.grownBy w' (some b)) (h2 : w'.grownBy w'' row) (hr : ∀ k, row = some k → k = b ∨ w.heap.size ≤ k) : w.grownBy w'' (some b) := by
  refine ⟨h2.os.trans h1.os, h2.tape.trans h1.tape, h2.output.trans h1.output, Nat.le_trans h1.size h2.size, fun k hk hne => ?_⟩
  have h3 := h1.size
  rw [h2.block k (by omega) (fun e => ?_), h1.block k hk hne]
  rcases hr k e.symm with rfl | h4
  · exact hne rfl
  · omega

set_option maxHeartbeats 1500000 in
set_option maxRecDepth 100000 in
theorem num_any (v : Value) (A : List Int) (bx bm N : Nat) (f : Int → Option Nat) (w : World) (hA : SC w v A) (hl : A.length ≤ 4096) (hbox : w.cell? ⟨bx, 0, none⟩ = some (.map (some bm))) (hm : MI w bm N f) (hids : Ids f N) (hN : N ≤ 8192) (hsm : ∀ i, i < A.length → ∀ s, code s = nth A i → s.size ≤ maxLen) :
    Calls Try.prog 21 #[v, .pointer (some ⟨bx, 0, none⟩)] w fun e w' => ∃ u na N' f', e = .returned u ∧ w'.ownsInts w.heap.size 3 .i64 u na ∧ MI w' bm N' f' ∧ Num A na N N' f f' A.length ∧ w.grownBy w' (some bm) := by
  obtain ⟨i0, hi0, hz0, hz1, hz2⟩ := info_parts Try.info3
  have hln := hA.len
  have hbm := hm.lt
  go_enter Try.func21, Try.ntmps21
  go_wp2_with (at_make; refine wpList_make_full _ rfl _ _ 22 rfl w.heap.size 3 i0 (.int .i64 0) 1 Try.underlying22 hi0 hz0 hz1 _ _ _ _ A.length rfl rfl rfl rfl (by rw [hz2]; omega) (by unfold maxLen; omega) (Nat.le_refl _) ?_; intro w1 hown1 hgrow1)
  have ho1 := made_zero hown1
  have hm1 := hm.kept hgrow1 (by simp)
  have hnum0 : Num A (List.replicate A.length 0) N N f f 0 := ⟨by simp, hids, by omega, fun _ _ h => h, fun i hi => by omega⟩
  have hg1 : w.grownBy w1 (some bm) := ⟨hgrow1.os, hgrow1.tape, hgrow1.output, hgrow1.size, fun k hk _ => hgrow1.block k hk (by simp)⟩
  clear hown1 hgrow1 hids
  go_loopw [14] (fun kv wr => ∃ (k N1 : Nat) (f1 : Int → Option Nat) (ns : List Int), k ≤ A.length ∧ kv = .int .i64 k ∧ wr.ownsInts w.heap.size 3 .i64 (.slice (some ⟨w.heap.size, 0, none⟩) A.length A.length) ns ∧ MI wr bm N1 f1 ∧ Num A ns N N1 f f1 k ∧ w.grownBy wr (some bm)) (fun kv _ => A.length - (intOf kv).toNat)
  case atStart => exact ⟨0, N, f, _, Nat.zero_le _, rfl, ho1, hm1, hnum0, hg1⟩
  case round =>
    clear ho1 hm1 hnum0 hg1
    obtain ⟨k, N1, f1, ns, hk, rfl, hown, hmi, hnum, hgr⟩ := hrel
    by_cases hlt : k < A.length
    · have hA' := SC.keptM hm hgr hA
      have ixa := hA'.index _ k rfl hlt
      obtain ⟨s, ca, hsa⟩ := hA'.cell k hlt
      have hbox' := cell_kept hm hgr hbox
      have hsz := hsm k hlt s hsa
      have hns := hnum.len
      have hle := hnum.le
      have hkn : k < ns.length := by rw [hns]; exact hlt
      have ixn := index_eq hown.1 22 Try.sl22 Try.ce22 k hkn
      cases hf : f1 (nth A k) with
      | some n =>
        have hlk := hmi.look_some (s := s) (n := n) hsz (by rw [hsa]; exact hf)
        have hn1 := hnum.ids.1 _ _ hf
        have HNX : Hid (Num A (ns.set k (n : Int)) N N1 f f1 (k + 1)) := hnum.hit hlt hf
        have fz := frozen_eq hown.1 k hkn
        obtain ⟨u2, hu2⟩ : ∃ u, wr.cell? ⟨blk (.slice (some ⟨w.heap.size, 0, none⟩) A.length A.length), k, none⟩ = some u := ⟨_, cell_int hown k hkn⟩
        obtain ⟨hst, hgs⟩ := stored_int hown k hkn (n : Int) (WalkArith.wf_i64 (by omega))
        have HST : Hid (_ ∧ _) := And.intro hst hgs
        clear hf hsa hns hst hgs
        go_wp2
        go_roundw
        case rel => exact ⟨k + 1, N1, f1, _, by omega, by go_num, HST.out.1, hmi.kept HST.out.2 (by simp [Value.ownBlock]; omega), HNX.out, grown_some hgr HST.out.2 (fun j hj => by simp [Value.ownBlock] at hj; omega)⟩
        case measure => simp [intOf]; omega
      | none =>
        obtain ⟨c, hlk⟩ := hmi.look_none (s := s) hsz (by rw [hsa]; exact hf)
        have hlen := hmi.len
        obtain ⟨w2, hup, hmi2, hg2⟩ := hmi.put (s := s) hsz (by rw [hsa]; exact hf) (by omega)
        rw [hsa] at hmi2
        have HNX : Hid (Num A (ns.set k (N1 : Int)) N (N1 + 1) f (fun y => if y = nth A k then some N1 else f1 y) (k + 1)) := hnum.new hlt hf
        have hown2 := owns_keptM hmi hg2 hown
        have fz := frozen_eq hown2.1 k hkn
        obtain ⟨u2, hu2⟩ : ∃ u, w2.cell? ⟨blk (.slice (some ⟨w.heap.size, 0, none⟩) A.length A.length), k, none⟩ = some u := ⟨_, cell_int hown2 k hkn⟩
        obtain ⟨hst, hgs⟩ := stored_int hown2 k hkn (N1 : Int) (WalkArith.wf_i64 (by omega))
        have HST : Hid (_ ∧ _) := And.intro hst hgs
        have HM2 : Hid (MI w2 bm (N1 + 1) (fun y => if y = nth A k then some N1 else f1 y)) := hmi2
        have hgr2 := grown_some hgr hg2 (fun j hj => by simp at hj; omega)
        clear hf hsa hns hst hgs hmi2
        go_wp2
        go_roundw
        case rel => exact ⟨k + 1, N1 + 1, _, _, by omega, by go_num, HST.out.1, HM2.out.kept HST.out.2 (by simp [Value.ownBlock]; omega), HNX.out, grown_some hgr2 HST.out.2 (fun j hj => by simp [Value.ownBlock] at hj; omega)⟩
        case measure => simp [intOf]; omega
    · obtain rfl : A.length = k := by omega
      go_wp2
      go_ret
      exact ⟨_, ns, N1, f1, rfl, hown, hmi, hnum, hgr⟩

end Go.Proofs.Qxb6605460a
