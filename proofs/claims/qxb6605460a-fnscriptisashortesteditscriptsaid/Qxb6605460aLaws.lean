/-
  The seat b6605460a: small laws on slices of the call's own, as equations that the walk takes: no case on nil.
-/
import Derived.Test.Qxb6605460aRows
import Derived.Test.Qxb6605460aPlain
import Derived.WalkKit
import Derived.WalkLawsBesides
import Derived.WalkSpells
import Derived.Lib.SliceRun
import Derived.Maps.OwnRows
import Derived.Deep.Draws
namespace Go.Proofs.Qxb6605460a
open Go.RowKit Go.Maps

/-- The block of a slice value (0 where it has none). -/
def blk (v : Value) : Nat := (v.ownBlock).getD 0
/-- Elements, behind a name that the walk does not open. -/
def nth (l : List Int) (k : Nat) : Int := l.getD k 0

theorem nth_eq {l : List Int} {k : Nat} (h : k < l.length) : nth l k = l[k] := by simp [nth, List.getD, List.getElem?_eq_getElem h]

section
variable {P : Program} {w : World} {base : Nat} {e : TypeId} {v : Value} {n : Nat} {xs : List Value}

theorem len_eq (h : w.ownsRow base e 1 v n xs) (t : TypeId) (ht : P.underlying t = some (.slice (P.elem t))) :
    ∀ (ty : TypeId) (w' : World), (Builtin.len_ #[t] ty #[v]).run P w' = .ok (goInt n) w' := by
  intro ty w'
  rcases h.2 with ⟨rfl, rfl⟩ | ⟨g, cap, cur, rfl, _⟩
  · exact run_len_slice (P := P) (w := w') t ty none 0 0 ht
  · exact run_len_slice (P := P) (w := w') t ty _ n cap ht

theorem index_eq (h : w.ownsRow base e 1 v n xs) (t : TypeId) (ht : P.underlying t = some (.slice (P.elem t))) (hs : ∀ w', (sizeOf (P.elem t)).run P w' = .ok 1 w') (k : Nat) (hk : k < n) :
    ∀ (w' : World), (Instr.indexAt t v (.int .i64 (k : Int))).run P w' = .ok (.pointer (some ⟨blk v, k, none⟩)) w' := by
  intro w'
  rcases h.2 with ⟨rfl, rfl⟩ | ⟨g, cap, cur, rfl, _⟩
  · omega
  · rw [run_indexAt_slice (P := P) (w := w') t _ n cap .i64 k ht]
    simp [hk, hs, blk, Value.ownBlock, Addr.add_lit]

/-- The same at an index that is spelt as a sum. -/
theorem index_at (h : w.ownsRow base e 1 v n xs) (t : TypeId) (ht : P.underlying t = some (.slice (P.elem t))) (hs : ∀ w', (sizeOf (P.elem t)).run P w' = .ok 1 w') (z : Int) (k : Nat) (hz : z = (k : Int)) (hk : k < n) :
    ∀ (w' : World), (Instr.indexAt t v (.int .i64 z)).run P w' = .ok (.pointer (some ⟨blk v, k, none⟩)) w' := by
  subst hz; exact index_eq h t ht hs k hk

theorem cell_eq (h : w.ownsRow base e 1 v n xs) (k : Nat) (hk : k < n) : w.cell? ⟨blk v, k, none⟩ = xs[k]? := by
  rcases h.2 with ⟨rfl, rfl⟩ | ⟨g, cap, cur, rfl, _⟩
  · omega
  · exact h.cellAt k (by omega)

theorem frozen_eq (h : w.ownsRow base e 1 v n xs) (k : Nat) (hk : k < n) : w.frozen? ⟨blk v, k, none⟩ = false := by
  rcases h.2 with ⟨rfl, rfl⟩ | ⟨g, cap, cur, rfl, _⟩
  · omega
  · exact h.frozenAt k

theorem stored_eq (h : w.ownsRow base e 1 v n xs) (k : Nat) (hk : k < n) (u : Value) :
    (w.setCell ⟨blk v, k, none⟩ u).ownsRow base e 1 v n (xs.set k u) ∧ w.grownBy (w.setCell ⟨blk v, k, none⟩ u) v.ownBlock := by
  rcases h.2 with ⟨rfl, rfl⟩ | ⟨g, cap, cur, rfl, _⟩
  · omega
  · exact h.stored k u

theorem cell_int {q : IntKind} {zs : List Int} (h : w.ownsInts base e q v zs) (k : Nat) (hk : k < zs.length) : w.cell? ⟨blk v, k, none⟩ = some (.int q (nth zs k)) := by
  rw [cell_eq h.1 k hk]
  simp [nth, List.getD, List.getElem?_eq_getElem hk]

/-- A store into a slice of numbers. -/
theorem stored_int {q : IntKind} {zs : List Int} (h : w.ownsInts base e q v zs) (k : Nat) (hk : k < zs.length) (z : Int) (hz : (Lit.int q z).wf = true) :
    (w.setCell ⟨blk v, k, none⟩ (.int q z)).ownsInts base e q v (zs.set k z) ∧ w.grownBy (w.setCell ⟨blk v, k, none⟩ (.int q z)) v.ownBlock := by
  obtain ⟨h1, h2⟩ := stored_eq h.1 k hk (.int q z)
  refine ⟨⟨by rw [List.map_set, List.length_set]; exact h1, fun y hy => ?_⟩, h2⟩
  rcases List.mem_or_eq_of_mem_set hy with hy | hy
  · exact h.2 y hy
  · subst hy; exact hz

theorem wf_nth {q : IntKind} {zs : List Int} (h : w.ownsInts base e q v zs) (k : Nat) (hk : k < zs.length) : (Lit.int q (nth zs k)).wf = true := by
  rw [nth_eq hk]; exact h.2 _ (List.getElem_mem hk)
end

theorem cell_new (W : World) (n : Nat) (hn : W.heap.size = n) (x : Value) (t : TypeId) : ∀ j u, [x][j]? = some u → (W.alloc (.cells #[x] t)).cell? ((⟨n, 0, none⟩ : Addr).add j) = some u := by
  subst hn; exact cell_one_new W x t

theorem grown_of_below {w w' : World} (h : Below w.heap.size w w') : w.grownBy w' none :=
  ⟨h.os, h.tape, h.output, h.size, fun k hk _ => h.block k hk⟩

theorem ownsRow_later {w w' : World} {base : Nat} {e : TypeId} {v : Value} {n : Nat} {xs : List Value} (h : w.ownsRow base e 1 v n xs) (hb : Below w.heap.size w w') : w'.ownsRow base e 1 v n xs :=
  h.kept (grown_of_below hb) (by cases v.ownBlock <;> simp)

theorem ownsInts_later {w w' : World} {base : Nat} {e : TypeId} {q : IntKind} {v : Value} {zs : List Int} (h : w.ownsInts base e q v zs) (hb : Below w.heap.size w w') : w'.ownsInts base e q v zs :=
  ⟨ownsRow_later h.1 hb, h.2⟩

/-- Two rows of different tags lie in different blocks. -/
theorem tags_apart {w : World} {b1 b2 : Nat} {e1 e2 : TypeId} {v1 v2 : Value} {n1 n2 : Nat} {x1 x2 : List Value} (h1 : w.ownsRow b1 e1 1 v1 n1 x1) (h2 : w.ownsRow b2 e2 1 v2 n2 x2) (hne : e1 ≠ e2) : v1.ownBlock = none ∨ v1.ownBlock ≠ v2.ownBlock := by
  rcases h1.2 with ⟨rfl, _⟩ | ⟨g, cap, cur, rfl, _, hh, _⟩
  · exact Or.inl rfl
  · refine Or.inr ?_
    rcases h2.2 with ⟨rfl, _⟩ | ⟨g', cap', cur', rfl, _, hh', _⟩
    · simp [Value.ownBlock]
    · intro e
      simp only [Value.ownBlock, Option.some.injEq] at e
      subst e
      rw [hh] at hh'
      simp only [Option.some.injEq, Obj.cells.injEq] at hh'
      exact hne hh'.2.1

/-- A row and a block of another tag. -/
theorem tag_block {w : World} {b1 : Nat} {e1 e2 : TypeId} {v1 : Value} {n1 : Nat} {x1 : List Value} {g : Nat} {cs : Array Value} {fr : Nat × Nat} (h1 : w.ownsRow b1 e1 1 v1 n1 x1) (h2 : w.heap[g]? = some (.cells cs e2 fr)) (hne : e1 ≠ e2) : some g ≠ v1.ownBlock := by
  rcases h1.2 with ⟨rfl, _⟩ | ⟨g', cap, cur, rfl, _, hh, _⟩
  · simp [Value.ownBlock]
  · intro e
    simp only [Value.ownBlock, Option.some.injEq] at e
    subst e
    rw [hh] at h2
    simp only [Option.some.injEq, Obj.cells.injEq] at h2
    exact hne h2.2.1

theorem made_one (z : Value) (hz : z.cells = #[z]) (n : Nat) : (madeCells z.cells (n * 1)).toList = List.replicate n z := by
  rw [hz]
  apply List.ext_getElem
  · simp [madeCells]
  · intro i h1 h2
    simp [madeCells, Nat.mod_one]

theorem block_lt {w : World} {a : Addr} {v : Value} (h : w.cell? a = some v) : a.block < w.heap.size := by
  unfold World.cell? at h
  rcases Nat.lt_or_ge a.block w.heap.size with h1 | h1
  · exact h1
  · rw [Array.getElem?_eq_none h1] at h
    cases h

theorem ret_int {k : IntKind} {a b : Int} (h : a = b) : Ending.returned (.int k a) = .returned (.int k b) := by rw [h]

/-- Go's min, behind a name that the walk does not open. -/
def imin (a b : Int) : Int := if b < a then b else a
theorem run_imin {P : Program} {w : World} (ts : Array TypeId) (t : TypeId) (k k' : IntKind) (x y : Int) : (Builtin.min_ ts t #[.int k x, .int k' y]).run P w = .ok (.int k (imin x y)) w := run_min_int2 (P := P) (w := w) ts t k k' x y

theorem Try.info3 : (Try.prog.info? 3).map (fun i => (i.zero, i.size, i.bytes)) = some (some (.int .i64 0), 1, 8) := by kernel_rfl
theorem Try.info39 : (Try.prog.info? 39).map (fun i => (i.zero, i.size, i.bytes)) = some (some (.int .i64 0), 1, 8) := by kernel_rfl
theorem Try.info22 : (Try.prog.info? 22).map (fun i => (i.zero, i.size, i.bytes)) = some (some (.slice none 0 0), 1, 24) := by kernel_rfl
theorem Try.sl22 : Try.prog.underlying 22 = some (.slice (Try.prog.elem 22)) := by kernel_rfl
theorem Try.sl25 : Try.prog.underlying 25 = some (.slice (Try.prog.elem 25)) := by kernel_rfl
theorem Try.sl40 : Try.prog.underlying 40 = some (.slice (Try.prog.elem 40)) := by kernel_rfl
theorem Try.ce22 (w : World) : (sizeOf (Try.prog.elem 22)).run Try.prog w = .ok 1 w := by kernel_rfl
theorem Try.ce25 (w : World) : (sizeOf (Try.prog.elem 25)).run Try.prog w = .ok 1 w := by kernel_rfl
theorem Try.ce40 (w : World) : (sizeOf (Try.prog.elem 40)).run Try.prog w = .ok 1 w := by kernel_rfl

end Go.Proofs.Qxb6605460a
