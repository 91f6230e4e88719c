/-
  The seat b6606064aD: byte slices that are read, and 'append' to a slice that is full or the call's own.
-/
import Derived.Test.Qxb6606064aDoorRows
import Derived.Test.Qxb6606064aDoorPlain
import Derived.WalkKit
import Derived.WalkLawsBesides
import Derived.WalkSpells
import Derived.Lib.SliceRun
import Derived.Maps.OwnRows
import Derived.Laws.BytesArg
import Derived.Laws.CopyOwn
import Derived.Deep.Draws
namespace Go.Proofs.Qxb6606064aDoor
open Go.RowKit Go.Maps

def nth (l : List Int) (k : Nat) : Int := l.getD k 0
theorem nth_eq {l : List Int} {k : Nat} (h : k < l.length) : nth l k = l[k] := by simp [nth, List.getD, List.getElem?_eq_getElem h]
theorem nth_mem {l : List Int} {k : Nat} (h : k < l.length) : nth l k ∈ l := by rw [nth_eq h]; exact List.getElem_mem h
theorem take_at {l : List Int} {k : Nat} (h : k < l.length) : l.take (k + 1) = l.take k ++ [nth l k] := by
  rw [List.take_succ_eq_append_getElem h, nth_eq h]
theorem drop_at {l : List Int} {k : Nat} (h : k < l.length) : l.drop k = nth l k :: l.drop (k + 1) := by
  rw [List.drop_eq_getElem_cons h, nth_eq h]

theorem add_add (x : Addr) (i j : Nat) : (x.add i).add j = x.add (i + j) := by
  unfold Addr.add
  by_cases hi : i = 0
  · subst hi; simp
  · by_cases hj : j = 0
    · subst hj; simp [hi]
    · simp [hi, hj, Nat.add_assoc]

theorem wf_of {z : Int} (h : 0 ≤ z ∧ z ≤ 255) : (Lit.int .u8 z).wf = true := by
  simp [Lit.wf, IntKind.min, IntKind.max, IntKind.signed, IntKind.bits]
  omega
theorem of_wf {z : Int} (h : (Lit.int .u8 z).wf = true) : 0 ≤ z ∧ z ≤ 255 := by
  simp [Lit.wf, IntKind.min, IntKind.max, IntKind.signed, IntKind.bits] at h
  omega

/-- The address of a slice's k-th element. -/
def adr (v : Value) (k : Nat) : Addr := match v with
  | .slice (some x) _ _ => x.add k
  | _ => ⟨0, 0, none⟩

/-- The slice v reads as the bytes zs. -/
def Reads (w : World) (v : Value) (zs : List Int) : Prop :=
  (v = .slice none 0 0 ∧ zs = []) ∨ ∃ x cap, v = .slice (some x) zs.length cap ∧ zs.length ≤ cap ∧ ∀ i, i < zs.length → w.cell? (x.add i) = some (.int .u8 (nth zs i))

theorem block_lt {w : World} {a : Addr} {v : Value} (h : w.cell? a = some v) : a.block < w.heap.size := by
  unfold World.cell? at h
  rcases Nat.lt_or_ge a.block w.heap.size with h1 | h1
  · exact h1
  · rw [Array.getElem?_eq_none h1] at h
    cases h

theorem Reads.later {w w' : World} {v : Value} {zs : List Int} (h : Reads w v zs) (hb : Below w.heap.size w w') : Reads w' v zs := by
  rcases h with h | ⟨x, cap, h1, h2, h5⟩
  · exact Or.inl h
  · refine Or.inr ⟨x, cap, h1, h2, fun i hi => ?_⟩
    rw [hb.cell (block_lt (h5 i hi))]
    exact h5 i hi

section
variable {w : World} {v : Value} {zs : List Int}
theorem Reads.cell (h : Reads w v zs) (k : Nat) (hk : k < zs.length) : w.cell? (adr v k) = some (.int .u8 (nth zs k)) := by
  rcases h with ⟨rfl, rfl⟩ | ⟨x, cap, rfl, _, h5⟩
  · simp at hk
  · exact h5 k hk

theorem Reads.len (h : Reads w v zs) : ∀ (ty : TypeId) (w' : World), (Builtin.len_ #[22] ty #[v]).run Tryd.prog w' = .ok (goInt zs.length) w' := by
  intro ty w'
  rcases h with ⟨rfl, rfl⟩ | ⟨x, cap, rfl, _, h5⟩
  · exact run_len_slice (P := Tryd.prog) (w := w') 22 ty none 0 0 (by kernel_rfl)
  · exact run_len_slice (P := Tryd.prog) (w := w') 22 ty _ _ cap (by kernel_rfl)

theorem Tryd.sl22 : Tryd.prog.underlying 22 = some (.slice (Tryd.prog.elem 22)) := by kernel_rfl
theorem Tryd.ce22 (w : World) : (sizeOf (Tryd.prog.elem 22)).run Tryd.prog w = .ok 1 w := by kernel_rfl

theorem Reads.index (h : Reads w v zs) (z : Int) (k : Nat) (hz : z = (k : Int)) (hk : k < zs.length) : ∀ (w' : World), (Instr.indexAt 22 v (.int .i64 z)).run Tryd.prog w' = .ok (.pointer (some (adr v k))) w' := by
  intro w'
  subst hz
  rcases h with ⟨rfl, rfl⟩ | ⟨x, cap, rfl, _, h5⟩
  · simp at hk
  · rw [run_indexAt_slice (P := Tryd.prog) (w := w') 22 _ _ cap .i64 k Tryd.sl22]
    simp [hk, Tryd.ce22, adr]

/-- v[lo:hi]. -/
theorem Reads.cut (h : Reads w v zs) (l h' : Int) (lo hi : Nat) (el : l = (lo : Int)) (eh : h' = (hi : Int)) (h1 : lo ≤ hi) (h2 : hi ≤ zs.length) :
    ∃ u, (∀ w', (Instr.slice 22 v (some (.int .i64 l)) (some (.int .i64 h')) none).run Tryd.prog w' = .ok u w') ∧ Reads w u ((zs.take hi).drop lo) := by
  subst el; subst eh
  rcases h with ⟨rfl, rfl⟩ | ⟨x, cap, rfl, hc, h5⟩
  · obtain rfl : hi = 0 := by simpa using h2
    obtain rfl : lo = 0 := by omega
    refine ⟨.slice none 0 0, fun w' => ?_, Or.inl ⟨rfl, by simp⟩⟩
    rw [run_slice_lh (P := Tryd.prog) w' 22 none 0 0 Tryd.sl22 .i64 .i64 _ _ (by simp) (by simp) (by simp), Tryd.ce22]
    simp [Result.andThen, sliced]
  · refine ⟨.slice (some (if cap = lo then x else x.add lo)) (hi - lo) (cap - lo), fun w' => ?_, Or.inr ⟨_, _, by rw [List.length_drop, List.length_take, Nat.min_eq_left h2], ?_, ?_⟩⟩
    · rw [run_slice_lh (P := Tryd.prog) w' 22 _ _ cap Tryd.sl22 .i64 .i64 _ _ (by omega) (by omega) (by omega), Tryd.ce22]
      simp only [Result.andThen, sliced, Int.toNat_natCast, Nat.mul_one, Option.map_some]
      split <;> rfl
    · simp; omega
    · intro i hi'
      have hi2 : i < hi - lo := by simpa [Nat.min_eq_left h2] using hi'
      rw [if_neg (by omega), add_add, h5 _ (by omega)]
      simp only [nth, List.getD, List.getElem?_drop, List.getElem?_take]
      rw [if_pos (by omega)]

theorem Reads.cutH (h : Reads w v zs) (hi : Nat) (h2 : hi ≤ zs.length) :
    ∃ u, (∀ w', (Instr.slice 22 v none (some (.int .i64 (hi : Int))) none).run Tryd.prog w' = .ok u w') ∧ Reads w u (zs.take hi) := by
  rcases h with ⟨rfl, rfl⟩ | ⟨x, cap, rfl, hc, h5⟩
  · obtain rfl : hi = 0 := by simpa using h2
    refine ⟨.slice none 0 0, fun w' => ?_, Or.inl ⟨rfl, by simp⟩⟩
    rw [run_slice_h (P := Tryd.prog) w' 22 none 0 0 Tryd.sl22 .i64 _ (by simp) (by simp), Tryd.ce22]
    simp [Result.andThen, sliced]
  · refine ⟨.slice (some x) hi cap, fun w' => ?_, Or.inr ⟨x, cap, by rw [List.length_take, Nat.min_eq_left h2], by simp; omega, ?_⟩⟩
    · rw [run_slice_h (P := Tryd.prog) w' 22 _ _ cap Tryd.sl22 .i64 _ (by omega) (by omega), Tryd.ce22]
      simp only [Result.andThen, sliced, Int.toNat_natCast, Nat.mul_one, Option.map_some, Nat.sub_zero]
      split <;> simp [Addr.add]
    · intro i hi'
      have hi2 : i < hi := by simpa [Nat.min_eq_left h2] using hi'
      rw [h5 _ (by omega)]
      simp only [nth, List.getD, List.getElem?_take]
      rw [if_pos (by omega)]

theorem Reads.cutL (h : Reads w v zs) (lo : Nat) (h2 : lo ≤ zs.length) :
    ∃ u, (∀ w', (Instr.slice 22 v (some (.int .i64 (lo : Int))) none none).run Tryd.prog w' = .ok u w') ∧ Reads w u (zs.drop lo) := by
  rcases h with ⟨rfl, rfl⟩ | ⟨x, cap, rfl, hc, h5⟩
  · obtain rfl : lo = 0 := by simpa using h2
    refine ⟨.slice none 0 0, fun w' => ?_, Or.inl ⟨rfl, by simp⟩⟩
    rw [run_slice_l (P := Tryd.prog) w' 22 none 0 0 Tryd.sl22 .i64 _ (by simp) (by simp), Tryd.ce22]
    simp [Result.andThen, sliced]
  · refine ⟨.slice (some (if cap = lo then x else x.add lo)) (zs.length - lo) (cap - lo), fun w' => ?_, Or.inr ⟨_, _, by rw [List.length_drop], by rw [List.length_drop]; omega, ?_⟩⟩
    · rw [run_slice_l (P := Tryd.prog) w' 22 _ _ cap Tryd.sl22 .i64 _ (by omega) (by omega), Tryd.ce22]
      simp only [Result.andThen, sliced, Int.toNat_natCast, Nat.mul_one, Option.map_some]
      split <;> rfl
    · intro i hi'
      have hi2 : i < zs.length - lo := by simpa using hi'
      rw [if_neg (by omega), add_add, h5 _ (by omega)]
      simp only [nth, List.getD, List.getElem?_drop]

/-- string(v). -/
theorem Reads.str (h : Reads w v zs) (hne : zs ≠ []) (hwf : ∀ z ∈ zs, (Lit.int .u8 z).wf = true) : (convert 22 9 v).run Tryd.prog w = .ok (.string (strOfNums zs)) w := by
  rcases h with ⟨_, rfl⟩ | ⟨x, cap, rfl, hc, h5⟩
  · exact absurd rfl hne
  · have hl : (zs.map fun n => UInt8.ofNat n.toNat).length = zs.length := by simp
    have := run_convert_bytes_back (P := Tryd.prog) w 22 9 5 x cap (zs.map fun n => UInt8.ofNat n.toNat) Tryd.underlying22 Tryd.underlying5 Tryd.underlying9 (fun j hj => by
      rw [hl] at hj
      rw [h5 j hj]
      simp only [List.getElem_map, nth_eq hj]
      have := of_wf (hwf _ (List.getElem_mem hj))
      congr 2
      simp
      omega)
    rw [hl] at this
    exact this
end

theorem Reads.of_own {w : World} {B : Nat} {e : TypeId} {v : Value} {zs : List Int} (h : w.ownsInts B e .u8 v zs) : Reads w v zs := by
  rcases h.1.2 with ⟨rfl, h0⟩ | ⟨g, cap, cur, rfl, hbg, hg, hnc, hcm, hcs, htake⟩
  · exact Or.inl ⟨rfl, List.eq_nil_of_length_eq_zero h0⟩
  · refine Or.inr ⟨_, cap, rfl, hnc, fun i hi => ?_⟩
    have := h.1.cellAt i (by simpa using hi)
    simpa [Addr.add_lit, nth, List.getD, List.getElem?_eq_getElem hi] using this

/-- A slice with no room behind its elements. -/
def Full (w : World) (v : Value) (zs : List Int) : Prop := ∃ x, v = .slice (some x) zs.length zs.length ∧ ∀ i, i < zs.length → w.cell? (x.add i) = some (.int .u8 (nth zs i))

theorem Full.reads {w : World} {v : Value} {zs : List Int} (h : Full w v zs) : Reads w v zs := by
  obtain ⟨x, h1, h2⟩ := h
  exact Or.inr ⟨x, _, h1, Nat.le_refl _, h2⟩

/-- What may be appended to: the call's own (in a block from B on), or full. -/
def Src (w : World) (B : Nat) (v : Value) (zs : List Int) : Prop := (w.ownsInts B 5 .u8 v zs ∨ Full w v zs) ∧ ∀ z ∈ zs, (Lit.int .u8 z).wf = true

theorem Src.reads {w : World} {B : Nat} {v : Value} {zs : List Int} (h : Src w B v zs) : Reads w v zs := by
  rcases h.1 with h | h
  · exact Reads.of_own h
  · exact h.reads

theorem Src.alloc {w : World} {B : Nat} {v : Value} {zs : List Int} (h : Src w B v zs) (o : Obj) : Src (w.alloc o) B v zs := by
  refine ⟨?_, h.2⟩
  rcases h.1 with h | ⟨x, h1, h2⟩
  · exact Or.inl (h.alloc o)
  · refine Or.inr ⟨x, h1, fun i hi => ?_⟩
    rw [((Below.refl w.heap.size w).alloc (Nat.le_refl _) o).cell (block_lt (h2 i hi))]
    exact h2 i hi

theorem run_append_src {w : World} {B : Nat} {ty : TypeId} {i : TypeInfo} (hi : Tryd.prog.info? 5 = some i) (hz : i.zero = some (.int .u8 0)) (hsize : i.size = 1) (hby : i.bytes = 1)
    {v : Value} {zs : List Int} (hown : Src w B v zs) {a : Addr} {c : Int} (hc : w.cell? a = some (.int .u8 c)) (hwf : (Lit.int .u8 c).wf = true) (hlen : zs.length + 1 ≤ 140737488355328) (hbase : B ≤ w.heap.size) :
    ∃ v' w', (Builtin.append_ #[22, 22] ty #[v, .slice (some a) 1 1]).run Tryd.prog w = .ok v' w' ∧ Src w' B v' (zs ++ [c]) ∧ Below B w w' := by
  have hnews : ∀ j u, [Value.int .u8 c][j]? = some u → w.cell? (a.add j) = some u := by
    intro j u hj
    cases j with
    | zero => simp at hj; subst hj; simpa [Addr.add] using hc
    | succ j => simp at hj
  have h1 : ∀ u ∈ [Value.int .u8 c], u.oneCell' = true := by intro u hu; simp at hu; subst hu; rfl
  have hwf' : ∀ z ∈ zs ++ [c], (Lit.int .u8 z).wf = true := by
    intro z hz
    rcases List.mem_append.1 hz with h | h
    · exact hown.2 z h
    · simp at h; subst h; exact hwf
  rcases hown.1 with ho | ⟨x, rfl, hx⟩
  · obtain ⟨v', w', hr, ho', hg, _⟩ := run_append_own (P := Tryd.prog) w B 22 ty 5 i (.int .u8 0) 1 1 Tryd.underlying22 hi hz hsize hby rfl (by decide) v zs.length (zs.map (Value.int .u8)) ho.1 a 1 1 [.int .u8 c] rfl hnews h1 (by unfold maxLen; omega) (by omega) hbase
    exact ⟨v', w', hr, ⟨Or.inl ⟨by simpa using ho', hwf'⟩, hwf'⟩, (Below.refl _ _).grown hg hbase (fun k hk => (ho.1.lt k hk).1)⟩
  · have hr := run_append_grow (P := Tryd.prog) w 22 ty 5 i (.int .u8 0) Tryd.underlying22 hi hz x zs.length zs.length (zs.map (Value.int .u8)) (by simp [hsize])
      (by
        intro j u hj
        rw [List.getElem?_map] at hj
        cases hq : zs[j]? with
        | none => rw [hq] at hj; cases hj
        | some z =>
          rw [hq] at hj
          obtain ⟨hlt, e⟩ := List.getElem?_eq_some_iff.1 hq
          rw [hx j hlt, nth_eq hlt, e]
          exact hj) a 1 1 [.int .u8 c] (by simp [hsize]) hnews (by omega) (by omega) (growslice_fits (by omega) (by rw [hby]; omega))
    have hge := grownCap_ge w (zs.length + 1) zs.length 5
    have hcm' : grownCap w (zs.length + 1) zs.length 5 ≤ maxLen := grownCap_le_maxLen w (zs.length + 1) zs.length 5 (by unfold maxLen; omega)
    refine ⟨_, _, hr, ⟨Or.inl ⟨⟨by simp, Or.inr ⟨w.heap.size, _, _, by simp, hbase, heap_alloc_new w.drew _, by simpa using hge, hcm', ?_, ?_⟩⟩, hwf'⟩, hwf'⟩, ⟨rfl, rfl, rfl, by simp, fun k hk => Below.heap_alloc w.drew _ k (by show k < w.heap.size; omega)⟩⟩
    · simp only [Array.size_append, List.size_toArray, size_zeroCells, List.length_map]
      have : (Value.int IntKind.u8 0).cells.size = 1 := rfl
      rw [this]; simp; omega
    · simp only [Array.toList_append, List.append_assoc]
      rw [← List.append_assoc]
      have e2 : (zs ++ [c]).length * 1 = (zs.map (Value.int .u8) ++ [Value.int .u8 c]).length := by simp
      rw [e2, List.map_append]
      exact List.take_left

theorem wpList_append_src {w : World} {ops : Array Oper} {rest : List Oper} {o : Oper} {a : Act} {Q : Exit → Act → World → Prop} (hgd : o.guard = none) (s x : Operand)
    (ho : o.op = .call { callee := .builtin .append, args := #[s, x], argTypes := #[22, 22] })
    (B : Nat) (i : TypeInfo) (hi : Tryd.prog.info? 5 = some i) (hz : i.zero = some (.int .u8 0)) (hsize : i.size = 1) (hby : i.bytes = 1)
    (v : Value) (zs : List Int) (hs : a.eval s = v) (hown : Src w B v zs)
    (ad : Addr) (c : Int) (hx : a.eval x = .slice (some ad) 1 1) (hc : w.cell? ad = some (.int .u8 c)) (hwf : (Lit.int .u8 c).wf = true) (hlen : zs.length + 1 ≤ 140737488355328) (hbase : B ≤ w.heap.size)
    (h : ∀ v' w', Src w' B v' (zs ++ [c]) → Below B w w' → wpList Tryd.prog ops Q rest (a.put o.dst v') w') : wpList Tryd.prog ops Q (o :: rest) a w := by
  refine wpList_plain hgd fun K hK' => ?_
  obtain ⟨v', w', hrun, r1, r2⟩ := run_append_src (ty := o.type) hi hz hsize hby hown hc hwf hlen hbase
  unfold Oper.wp
  simp [execOp, ho, resolve, invoke, builtin, hs, hx, hrun, Result.andThen]
  exact hK' _ _ (h v' w' r1 r2)

theorem cells_new (W : World) (n : Nat) (hn : W.heap.size = n) (xs : List Value) (t : TypeId) : ∀ j u, xs[j]? = some u → (W.alloc (.cells xs.toArray t)).cell? ((⟨n, 0, none⟩ : Addr).add j) = some u := by
  subst hn
  intro j u hj
  rw [Addr.add_lit]
  unfold World.cell?
  rw [heap_alloc_new W]
  simpa using hj

theorem cell_new (W : World) (n : Nat) (hn : W.heap.size = n) (x : Value) (t : TypeId) : (W.alloc (.cells #[x] t)).cell? ⟨n, 0, none⟩ = some x := by
  subst hn; exact cell_one_new W x t 0 x rfl

theorem made_one (z : Value) (hz : z.cells = #[z]) (n : Nat) : (madeCells z.cells (n * 1)).toList = List.replicate n z := by
  rw [hz]
  apply List.ext_getElem
  · simp [madeCells]
  · intro i h1 h2
    simp [madeCells, Nat.mod_one]

theorem Tryd.info5 : (Tryd.prog.info? 5).map (fun i => (i.zero, i.size, i.bytes)) = some (some (.int .u8 0), 1, 1) := by kernel_rfl

end Go.Proofs.Qxb6606064aDoor
