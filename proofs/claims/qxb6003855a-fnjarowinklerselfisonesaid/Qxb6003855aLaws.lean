/-
  The seat b6003855a: small laws on slices of the call's own, as equations that the walk takes: no case on nil.
-/
import Derived.Test.Qxb6003855aRows
import Derived.WalkKit
import Derived.WalkLawsBesides
import Derived.Maps.OwnRows
import Derived.Maps.OwnOps
namespace Go.Proofs.Qxb6003855a
open Go.RowKit Go.Maps

/-- The block of a slice value (0 where it has none). -/
def blk (v : Value) : Nat := (v.ownBlock).getD 0

section
variable {P : Program} {w : World} {base : Nat} {e : TypeId} {v : Value} {n : Nat} {xs : List Value}

theorem len_eq (h : w.ownsRow base e 1 v n xs) (t : TypeId) (ht : P.underlying t = some (.slice (P.elem t))) :
    ∀ (ty : TypeId) (w' : World), (Builtin.len_ #[t] ty #[v]).run P w' = .ok (goInt n) w' := by
  intro ty w'
  rcases h.2 with ⟨rfl, rfl⟩ | ⟨g, cap, cur, rfl, _⟩
  · exact run_len_slice (P := P) (w := w') t ty none 0 0 ht
  · exact run_len_slice (P := P) (w := w') t ty _ n cap ht

theorem index_eq (h : w.ownsRow base e 1 v n xs) (t : TypeId) (ht : P.underlying t = some (.slice (P.elem t))) (hs : ∀ w', (sizeOf (P.elem t)).run P w' = .ok 1 w') (k : Nat) (hk : k < n) :
    ∀ (w' : World), (Instr.indexAt t v (.int .i64 (k : Int))).run P w' = .ok (.pointer (some ⟨blk v, k, none⟩)) w' := by
  intro w'
  rcases h.2 with ⟨rfl, rfl⟩ | ⟨g, cap, cur, rfl, _⟩
  · omega
  · rw [run_indexAt_slice (P := P) (w := w') t _ n cap .i64 k ht]
    simp [hk, hs, blk, Value.ownBlock, Addr.add_lit]

theorem cell_eq (h : w.ownsRow base e 1 v n xs) (k : Nat) (hk : k < n) : w.cell? ⟨blk v, k, none⟩ = xs[k]? := by
  rcases h.2 with ⟨rfl, rfl⟩ | ⟨g, cap, cur, rfl, _⟩
  · omega
  · exact h.cellAt k (by omega)

theorem frozen_eq (h : w.ownsRow base e 1 v n xs) (k : Nat) (hk : k < n) : w.frozen? ⟨blk v, k, none⟩ = false := by
  rcases h.2 with ⟨rfl, rfl⟩ | ⟨g, cap, cur, rfl, _⟩
  · omega
  · exact h.frozenAt k

theorem stored_eq (h : w.ownsRow base e 1 v n xs) (k : Nat) (hk : k < n) (u : Value) :
    (w.setCell ⟨blk v, k, none⟩ u).ownsRow base e 1 v n (xs.set k u) ∧ w.grownBy (w.setCell ⟨blk v, k, none⟩ u) v.ownBlock := by
  rcases h.2 with ⟨rfl, rfl⟩ | ⟨g, cap, cur, rfl, _⟩
  · omega
  · exact h.stored k u

/-- Elements, behind names that the walk does not open. -/
def nth (l : List Int) (k : Nat) : Int := l.getD k 0
def bth (l : List Bool) (k : Nat) : Bool := l.getD k false

theorem cell_bool {mt : List Bool} (h : w.ownsRow base e 1 v mt.length (mt.map Value.bool)) (k : Nat) (hk : k < mt.length) : w.cell? ⟨blk v, k, none⟩ = some (.bool (bth mt k)) := by
  rw [cell_eq h k hk]
  simp [bth, List.getD, List.getElem?_eq_getElem hk]

theorem cell_int {q : IntKind} {zs : List Int} (h : w.ownsInts base e q v zs) (k : Nat) (hk : k < zs.length) : w.cell? ⟨blk v, k, none⟩ = some (.int q (nth zs k)) := by
  rw [cell_eq h.1 k hk]
  simp [nth, List.getD, List.getElem?_eq_getElem hk]
end

theorem cell_one_at (W : World) (n : Nat) (hn : W.heap.size = n) (x : Value) (t : TypeId) : ∀ j u, [x][j]? = some u → (W.alloc (.cells #[x] t)).cell? ((⟨n, 0, none⟩ : Addr).add j) = some u := by
  subst hn; exact cell_one_new W x t

theorem Try.info21 : (Try.prog.info? 21).map (fun i => (i.zero, i.size, i.bytes)) = some (some (.int .i32 0), 1, 4) := by kernel_rfl
theorem Try.info3 : (Try.prog.info? 3).map (fun i => (i.zero, i.size, i.bytes)) = some (some (.int .i64 0), 1, 8) := by kernel_rfl
theorem Try.info4 : (Try.prog.info? 4).map (fun i => (i.zero, i.size, i.bytes)) = some (some (.bool false), 1, 1) := by kernel_rfl
theorem Try.sl22 : Try.prog.underlying 22 = some (.slice (Try.prog.elem 22)) := by kernel_rfl
theorem Try.sl31 : Try.prog.underlying 31 = some (.slice (Try.prog.elem 31)) := by kernel_rfl
theorem Try.sl33 : Try.prog.underlying 33 = some (.slice (Try.prog.elem 33)) := by kernel_rfl
theorem Try.ce22 (w : World) : (sizeOf (Try.prog.elem 22)).run Try.prog w = .ok 1 w := by kernel_rfl
theorem Try.ce31 (w : World) : (sizeOf (Try.prog.elem 31)).run Try.prog w = .ok 1 w := by kernel_rfl
theorem Try.ce33 (w : World) : (sizeOf (Try.prog.elem 33)).run Try.prog w = .ok 1 w := by kernel_rfl
theorem law21 : Keyed Try.prog 21 := int_keyed Try.underlying21
theorem zero31 (w : World) : (zeroValue 31).run Try.prog w = .ok (.slice none 0 0) w := by kernel_rfl
theorem zero3 (w : World) : (zeroValue 3).run Try.prog w = .ok (.int .i64 0) w := by kernel_rfl

end Go.Proofs.Qxb6003855a
