/-
  The seat b6605380a: laws on the call's own byte slices, whatever their block is tagged with; strings as lists of numbers.
-/
import Derived.Test.Qxb6605380aRows
import Derived.Test.Qxb6605380aPlain
import Derived.WalkKit
import Derived.WalkLawsBesides
import Derived.Maps.OwnRows
import Derived.Laws.BytesArg
namespace Go.Proofs.Qxb6605380a
open Go.RowKit Go.Maps

/-- A string's bytes as numbers. -/
def bytes (s : ByteArray) : List Int := s.data.toList.map (fun c => (c.toNat : Int))
def nth (l : List Int) (k : Nat) : Int := l.getD k 0

theorem bytes_len (s : ByteArray) : (bytes s).length = s.size := by unfold bytes; rw [List.length_map]; rfl
theorem bytes_wf (s : ByteArray) : ∀ z ∈ bytes s, (Lit.int .u8 z).wf = true := by
  intro z hz
  obtain ⟨c, _, rfl⟩ := List.mem_map.1 hz
  have := c.toNat_lt
  simp [Lit.wf, IntKind.min, IntKind.max, IntKind.signed, IntKind.bits]
  omega
theorem nth_eq {l : List Int} {k : Nat} (h : k < l.length) : nth l k = l[k] := by simp [nth, List.getD, List.getElem?_eq_getElem h]
theorem bytes_at {s : ByteArray} {k : Nat} (h : k < s.size) : nth (bytes s) k = (s[k].toNat : Int) := by
  rw [nth_eq (by rw [bytes_len]; exact h)]
  simp [bytes]
  rfl
theorem nth_wf {l : List Int} (hl : ∀ z ∈ l, (Lit.int .u8 z).wf = true) {k : Nat} (h : k < l.length) : (Lit.int .u8 (nth l k)).wf = true := by
  rw [nth_eq h]; exact hl _ (List.getElem_mem h)

theorem index_eq {P : Program} {t : TypeId} (ht : P.underlying t = some .string) (s : ByteArray) (k : Nat) (h : k < s.size) :
    ∀ w : World, (Instr.index t (.string s) (.int .i64 (k : Int))).run P w = .ok (.int .u8 (nth (bytes s) k)) w := by
  intro w
  rw [run_index_string (P := P) (w := w) t s .i64 k ht, dif_pos (by omega), bytes_at h]
  simp

theorem strOf_bytes (s : ByteArray) : strOfNums (bytes s) = s := by
  have : (strOfNums (bytes s)).data.toList = s.data.toList := by
    rw [strOfNums_data, bytes, List.map_map]
    conv => rhs; rw [← List.map_id s.data.toList]
    apply List.map_congr_left
    intro c _
    simp
  cases s with
  | mk d =>
    have h2 : (strOfNums (bytes ⟨d⟩)).data = d := by
      apply Array.toList_inj.1; exact this
    cases hh : strOfNums (bytes ⟨d⟩) with
    | mk d' => rw [hh] at h2; simp at h2; rw [h2]

theorem bytes_strOf {l : List Int} (hl : ∀ z ∈ l, (Lit.int .u8 z).wf = true) : bytes (strOfNums l) = l := by
  unfold bytes
  rw [strOfNums_data, List.map_map]
  conv => rhs; rw [← List.map_id l]
  apply List.map_congr_left
  intro z hz
  have := hl z hz
  simp [Lit.wf, IntKind.min, IntKind.max, IntKind.signed, IntKind.bits] at this
  simp
  omega

/-- Two strings are equal where their numbers are. -/
theorem eql_eq {t : TypeId} {a b : ByteArray} (h : bytes a = bytes b) : binOp .eql t (.string a) (.string b) = pure (.bool true) := by
  have : a = b := by rw [← strOf_bytes a, ← strOf_bytes b, h]
  subst this
  rw [binOp_string_eql]; simp

/-! ### slices of bytes -/
/-- The slice v owns the numbers zs (its block may bear whatever tag). -/
def ownsB (w : World) (base : Nat) (v : Value) (zs : List Int) : Prop := ∃ e, w.ownsInts base e .u8 v zs

theorem ownsB.alloc {w : World} {base : Nat} {v : Value} {zs : List Int} (h : ownsB w base v zs) (o : Obj) : ownsB (w.alloc o) base v zs := by
  obtain ⟨e, h⟩ := h; exact ⟨e, h.alloc o⟩
theorem ownsB.lt {w : World} {base : Nat} {v : Value} {zs : List Int} (h : ownsB w base v zs) : ∀ k, v.ownBlock = some k → base ≤ k ∧ k < w.heap.size := by
  obtain ⟨e, h⟩ := h; exact h.1.lt
theorem ownsB.wf {w : World} {base : Nat} {v : Value} {zs : List Int} (h : ownsB w base v zs) : ∀ z ∈ zs, (Lit.int .u8 z).wf = true := by
  obtain ⟨e, h⟩ := h; exact h.2
theorem ownsB.kept {w w' : World} {base : Nat} {v : Value} {zs : List Int} {row : Option Nat} (h : ownsB w base v zs) (hg : w.grownBy w' row) (hne : v.ownBlock = none ∨ v.ownBlock ≠ row) : ownsB w' base v zs := by
  obtain ⟨e, h⟩ := h; exact ⟨e, h.kept hg hne⟩

section
variable {P : Program} (w : World)

/-- Room behind the elements: the block's tag does not matter. -/
theorem room_tag {t ty e e' : TypeId} {i : TypeInfo} (ht : P.underlying t = some (.slice e)) (hi : P.info? e = some i)
    {g sLen sCap : Nat} {cur : Array Value} (hg : w.heap[g]? = some (.cells cur e' (0, 0)))
    {a : Addr} {m c : Nat} {news : List Value} (hl : news.length = m * i.size) (hnews : ∀ j u, news[j]? = some u → w.cell? (a.add j) = some u) (h1 : ∀ u ∈ news, u.oneCell' = true)
    (hroom : sLen + m ≤ sCap) (hfit : sLen * i.size + news.length ≤ cur.size) :
    (Builtin.append_ #[t, t] ty #[.slice (some ⟨g, 0, none⟩) sLen sCap, .slice (some a) m c]).run P w =
      .ok (.slice (some ⟨g, 0, none⟩) (sLen + m) sCap) (w.setRow g (cur.toList.take (sLen * i.size) ++ news ++ cur.toList.drop (sLen * i.size + news.length)).toArray) := by
  have hf := run_firstCells_some (P := P) w i.size m a m c news hl hnews
  have hst := run_storeCells_at P g (sLen * i.size) e' news 0 cur w hg (by simpa using hfit) h1
  simp only [Nat.add_zero] at hst
  simp [Builtin.append_, run_underlying ht, sizeOf, typeInfo, hi, Builtin.lenOf, hroom, hf, Addr.add_lit, hst]

/-- 'append(v, x)', v a slice of bytes of the call's own. -/
theorem run_append_b {base : Nat} {t ty e : TypeId} {i : TypeInfo} (ht : P.underlying t = some (.slice e)) (hi : P.info? e = some i) (hz : i.zero = some (.int .u8 0)) (hsize : i.size = 1) (hby : i.bytes = 1)
    {v : Value} {zs : List Int} (hown : ownsB w base v zs) {a : Addr} {c : Int} (hc : w.cell? a = some (.int .u8 c)) (hwf : (Lit.int .u8 c).wf = true) (hlen : zs.length + 1 ≤ 140737488355328) (hbase : base ≤ w.heap.size) :
    ∃ v' w', (Builtin.append_ #[t, t] ty #[v, .slice (some a) 1 1]).run P w = .ok v' w' ∧ ownsB w' base v' (zs ++ [c]) ∧ w.grownBy w' v.ownBlock := by
  obtain ⟨e', hown⟩ := hown
  have hnews : ∀ j u, [Value.int .u8 c][j]? = some u → w.cell? (a.add j) = some u := by
    intro j u hj
    cases j with
    | zero => simp at hj; subst hj; simpa [Addr.add] using hc
    | succ j => simp at hj
  have h1 : ∀ u ∈ [Value.int .u8 c], u.oneCell' = true := by intro u hu; simp at hu; subst hu; rfl
  have hwf' : ∀ z ∈ zs ++ [c], (Lit.int .u8 z).wf = true := by
    intro z hz
    rcases List.mem_append.1 hz with h | h
    · exact hown.2 z h
    · simp at h; subst h; exact hwf
  have hrow := hown.1
  rcases hrow.2 with ⟨rfl, h0⟩ | ⟨g, cap, cur, rfl, hbg, hg, hnc, hcm, hcs, htake⟩
  · have hzs : zs = [] := List.eq_nil_of_length_eq_zero h0
    subst hzs
    obtain ⟨v', w', hr, ho, hg, _⟩ := run_append_own (P := P) w base t ty e i (.int .u8 0) 1 1 ht hi hz hsize hby rfl (by decide) (.slice none 0 0) 0 [] (World.ownsRow_nil _ _ _ _) a 1 1 [.int .u8 c] rfl hnews h1 (by unfold maxLen; omega) (by omega) hbase
    exact ⟨v', w', hr, ⟨e, by simpa using ho, hwf'⟩, hg⟩
  · by_cases hroom : zs.length + 1 ≤ cap
    · have hr := room_tag (P := P) w ht hi (ty := ty) (m := 1) (c := 1) (sLen := zs.length) (sCap := cap) hg (news := [.int .u8 c]) (by simp [hsize]) hnews h1 hroom (by rw [hsize, hcs]; simp; omega)
      refine ⟨_, _, hr, ⟨e', ⟨⟨by simp, Or.inr ⟨g, cap, _, by simp, hbg, setRow_heap w g cur _ e' _ hg, by simpa using hroom, hcm, ?_, ?_⟩⟩, hwf'⟩⟩, ⟨rfl, rfl, rfl, by simp, fun k _ hk => setRow_other w g k _ (fun e => hk (by simp [Value.ownBlock, e]))⟩⟩
      · simp only [List.size_toArray, List.length_append, List.length_take, List.length_drop, Array.length_toList, hsize]
        simp; omega
      · rw [hsize, htake]
        have e1 : zs.length * 1 = (zs.map (Value.int .u8)).length := by simp
        have e2 : (zs ++ [c]).length * 1 = (zs.map (Value.int .u8) ++ [Value.int .u8 c]).length := by simp
        rw [e2]
        simp only [List.map_append, List.map_cons, List.map_nil]
        exact List.take_left
    · obtain ⟨v', w', hr, ho, hg2, _⟩ : ∃ v' w', (Builtin.append_ #[t, t] ty #[.slice (some ⟨g, 0, none⟩) zs.length cap, .slice (some a) 1 1]).run P w = .ok v' w' ∧ w'.ownsRow base e 1 v' (zs.length + 1) (zs.map (Value.int .u8) ++ [.int .u8 c]) ∧ w.grownBy w' (some g) ∧ True := by
        have hr := run_append_grow (P := P) w t ty e i (.int .u8 0) ht hi hz ⟨g, 0, none⟩ zs.length cap (zs.map (Value.int .u8)) (by simp [hsize]) (hrow.cells (g := g) rfl) a 1 1 [.int .u8 c] (by simp [hsize]) hnews (by omega) (by omega) (growslice_fits (by omega) (by rw [hby]; omega))
        have hge := grownCap_ge w (zs.length + 1) cap e
        have hcm' : grownCap w (zs.length + 1) cap e ≤ maxLen := grownCap_le_maxLen w (zs.length + 1) cap e (by unfold maxLen; omega)
        refine ⟨_, _, hr, ⟨by simp, Or.inr ⟨w.heap.size, _, _, rfl, hbase, heap_alloc_new w.drew _, hge, hcm', ?_, ?_⟩⟩, ⟨rfl, rfl, rfl, by simp, fun k hk _ => Below.heap_alloc w.drew _ k hk⟩, trivial⟩
        · simp only [Array.size_append, List.size_toArray, size_zeroCells, List.length_map]
          have : (Value.int IntKind.u8 0).cells.size = 1 := rfl
          rw [this]; simp; omega
        · simp only [Array.toList_append, List.append_assoc]
          rw [← List.append_assoc]
          have e2 : (zs.length + 1) * 1 = (zs.map (Value.int .u8) ++ [Value.int .u8 c]).length := by simp
          rw [e2]
          exact List.take_left
      exact ⟨v', w', hr, ⟨e, by simpa using ho, hwf'⟩, hg2⟩

theorem wpList_append_b {ops : Array Oper} {rest : List Oper} {o : Oper} {a : Act} {Q : Exit → Act → World → Prop} (hgd : o.guard = none) (s x : Operand) (t : TypeId)
    (ho : o.op = .call { callee := .builtin .append, args := #[s, x], argTypes := #[t, t] })
    (base : Nat) (e : TypeId) (i : TypeInfo) (ht : P.underlying t = some (.slice e)) (hi : P.info? e = some i) (hz : i.zero = some (.int .u8 0)) (hsize : i.size = 1) (hby : i.bytes = 1)
    (v : Value) (zs : List Int) (hs : a.eval s = v) (hown : ownsB w base v zs)
    (ad : Addr) (c : Int) (hx : a.eval x = .slice (some ad) 1 1) (hc : w.cell? ad = some (.int .u8 c)) (hwf : (Lit.int .u8 c).wf = true) (hlen : zs.length + 1 ≤ 140737488355328) (hbase : base ≤ w.heap.size)
    (h : ∀ v' w', ownsB w' base v' (zs ++ [c]) → w.grownBy w' v.ownBlock → wpList P ops Q rest (a.put o.dst v') w') : wpList P ops Q (o :: rest) a w := by
  refine wpList_plain hgd fun K hK' => ?_
  obtain ⟨v', w', hrun, r1, r2⟩ := run_append_b (P := P) w (ty := o.type) ht hi hz hsize hby hown hc hwf hlen hbase
  unfold Oper.wp
  simp [execOp, ho, resolve, invoke, builtin, hs, hx, hrun, Result.andThen]
  exact hK' _ _ (h v' w' r1 r2)

/-- 'string(v)'. -/
theorem conv_eq {base : Nat} {src dst e : TypeId} (hs : P.underlying src = some (.slice e)) (he : P.underlying e = some (.int .u8)) (hd : P.underlying dst = some .string) {v : Value} {zs : List Int} (hown : ownsB w base v zs) :
    (convert src dst v).run P w = .ok (.string (strOfNums zs)) w := by
  obtain ⟨e', hown⟩ := hown
  have hrow := hown.1
  rcases hrow.2 with ⟨rfl, h0⟩ | ⟨g, cap, cur, rfl, _⟩
  · have hzs : zs = [] := List.eq_nil_of_length_eq_zero h0
    subst hzs
    exact run_convert_bytes_nil w src e hs he 0 0 dst hd
  · refine run_convert_bytes_arg w src e hs he g 0 zs.length cap zs rfl (fun j hj => ?_) dst hd
    rw [Nat.zero_add, hrow.cellAt j (by omega)]
    simp [List.getD, List.getElem?_eq_getElem hj]
end

theorem cell_new (W : World) (n : Nat) (hn : W.heap.size = n) (x : Value) (t : TypeId) : (W.alloc (.cells #[x] t)).cell? ⟨n, 0, none⟩ = some x := by
  subst hn; exact cell_one_new W x t 0 x rfl

theorem Try.info5 : (Try.prog.info? 5).map (fun i => (i.zero, i.size, i.bytes)) = some (some (.int .u8 0), 1, 1) := by kernel_rfl

end Go.Proofs.Qxb6605380a
