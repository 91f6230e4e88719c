/-
  The seat b6003855a: the call's own maps 'map[rune][]int' and 'map[rune]int', said by functions of the key.
-/
import Derived.Test.Qxb6003855aLaws
import Derived.Maps.OwnSet
import Derived.Maps.Views
import Derived.Deep.Draws
namespace Go.Proofs.Qxb6003855a
open Go.RowKit Go.Maps Go.WideElems Go.MapKept
open Go.ChangeShapes (lits)

/-- Below the whole of an elder world: what was there is kept. -/
theorem grown_of_below {w w' : World} (h : Below w.heap.size w w') : w.grownBy w' none :=
  ⟨h.os, h.tape, h.output, h.size, fun k hk _ => h.block k hk⟩

theorem ownsRow_later {w w' : World} {base : Nat} {e : TypeId} {v : Value} {n : Nat} {xs : List Value} (h : w.ownsRow base e 1 v n xs) (hb : Below w.heap.size w w') : w'.ownsRow base e 1 v n xs :=
  h.kept (grown_of_below hb) (by cases v.ownBlock <;> simp)

theorem ownsInts_later {w w' : World} {base : Nat} {e : TypeId} {q : IntKind} {v : Value} {zs : List Int} (h : w.ownsInts base e q v zs) (hb : Below w.heap.size w w') : w'.ownsInts base e q v zs :=
  ⟨ownsRow_later h.1 hb, h.2⟩

section
variable {H : Type} {P : Program} {k : TypeId} {w w' : World} {base : Nat} {e : TypeId} {q : IntKind} {b n : Nat} {D : DataW H}

theorem ownsGroups_later (h : w.ownsGroups P k base e q b n D) (hbe : Below w.heap.size w w') : w'.ownsGroups P k base e q b n D := by
  obtain ⟨es, clock, hb, F, hs, rfl, hbb, hlen, hap⟩ := h
  have hg := grown_of_below hbe
  have hblt : b < w.heap.size := (Array.getElem?_eq_some_iff.1 hb).1
  have hst : ∀ x ∈ es.toList, ∀ z, rowElem (H := H) w base e q x.val = some z → rowElem w' base e q x.val = some z := fun x hx z hz => by
    obtain ⟨zs, ho, rfl⟩ := rowElem_inv hz
    exact rowElem_mk (ownsInts_later ho hbe)
  obtain ⟨F1, hmap, _⟩ := F.stay hst
  refine ⟨es, clock, (hbe.block b hblt).trans hb, F1, hs, by rw [hmap], hbb, fun x hx zs ho => ?_, hap⟩
  obtain ⟨y, hy⟩ := F.reads x hx
  obtain ⟨z, hz, _⟩ := rd_val hy
  obtain ⟨zs0, ho0, _⟩ := rowElem_inv hz
  rw [ho.unique (ownsInts_later ho0 hbe)]
  exact hlen x hx zs0 ho0

theorem entry_unique {es : Array MapEntry} {clock : Nat} (hs : Stamped es clock) {x y : MapEntry} (hx : x ∈ es.toList) (hy : y ∈ es.toList) (hk : x.key = y.key) : x = y := by
  have hn : (es.toList.map (·.key)).Pairwise (· ≠ ·) := hs.2.2
  obtain ⟨i, hi, rfl⟩ := List.getElem_of_mem hx
  obtain ⟨j, hj, rfl⟩ := List.getElem_of_mem hy
  rw [List.pairwise_map] at hn
  have h2 := List.pairwise_iff_getElem.1 hn
  rcases Nat.lt_trichotomy i j with h | h | h
  · exact absurd hk (h2 i j hi hj h)
  · subst h; rfl
  · exact absurd hk.symm (h2 j i hj hi h)

/-- 'm[k]' on the map of slices: ONE value in every world that has the map as it is. -/
theorem groups_look {t E : TypeId} {key : Value} {kl : Lit} (h : w.ownsGroups P k base e q b n D) (K : Keyed P k) (ht : P.underlying t = some (.map k E)) (hz : ∀ w', (zeroValue E).run P w' = .ok (.slice none 0 0) w') (hkey : keyOf P k key = some kl) :
    ∃ v zs, (∀ w', w'.heap[b]? = w.heap[b]? → (Instr.lookup t (.map (some b)) key false).run P w' = .ok v w') ∧ D.atKey kl .nil = rowDatum q v zs ∧ w.ownsInts base e q v zs ∧ zs.length ≤ n := by
  obtain ⟨es, clock, hb, F, hs, rfl, hbb, hlen, hap⟩ := h
  rcases Maps.fit_look false K ht (hz w) hb F hkey with ⟨hrun, hno, hat⟩ | ⟨e0, y, hm0, h3, hrun, hR, hat, _⟩
  · refine ⟨.slice none 0 0, [], fun w' hw' => ?_, hat _, World.ownsInts_nil _ _ _ _, Nat.zero_le _⟩
    rcases Maps.fit_look false K ht (hz w') (hw'.trans hb) F hkey with ⟨hrun', _, _⟩ | ⟨e1, _, hm1, h31, _⟩
    · exact hrun'
    · exact absurd h31 (hno e1 hm1)
  · obtain ⟨zs, ho, rfl⟩ := rowElem_inv hR
    refine ⟨e0.val, zs, fun w' hw' => ?_, hat _, ho, hlen e0 hm0 zs ho⟩
    rcases Maps.fit_look false K ht (hz w') (hw'.trans hb) F hkey with ⟨_, hno, _⟩ | ⟨e1, _, hm1, h31, hrun', _⟩
    · exact absurd h3 (hno e0 hm0)
    · rw [entry_unique F.stamped hm0 hm1 (h3.trans h31.symm)]
      exact hrun'

theorem groups_len {t E : TypeId} (h : w.ownsGroups P k base e q b n D) (ht : P.underlying t = some (.map k E)) :
    ∃ m : Nat, m ≤ n ∧ ∀ ty, (Builtin.len_ #[t] ty #[.map (some b)]).run P w = .ok (.int .i64 (m : Int)) w := by
  obtain ⟨es, clock, hb, F, hs, _⟩ := h
  exact ⟨es.size, hs, fun ty => by simp [Builtin.len_, run_underlying ht, MapKept.run_getObj_map hb, goInt, Result.andThen]⟩

theorem run_makeMap_hint {t E : TypeId} (ht : P.underlying t = some (.map k E)) (m : Nat) (w : World) : (Instr.makeMap t (some (.int .i64 (m : Int)))).run P w = .ok (.map (some w.heap.size)) (w.alloc (.map #[] 0)) := by
  simp [Instr.makeMap, run_underlying ht, asInt, asIntOf, Result.andThen]
end

theorem lits_inj {H : Type} {q : IntKind} : ∀ {a b : List Int}, lits (H := H) q a = lits q b → a = b
  | [], [], _ => rfl
  | [], _ :: _, h => by simp [lits] at h
  | _ :: _, [], h => by simp [lits] at h
  | x :: a, y :: b, h => by
    simp only [lits, List.map_cons, List.cons.injEq] at h
    obtain ⟨h1, h2⟩ := h
    have := lits_inj (H := H) (q := q) (a := a) (b := b) h2
    simp at h1
    rw [h1, this]

/-- The slice at the key r reads as f says. -/
def atIs (D : DataW Unit) (r : Int) (l : List Int) : Prop := (l = [] ∧ D.atKey (.int .i32 r) .nil = .nil) ∨ D.atKey (.int .i32 r) .nil = .slice (lits .i64 l) []

theorem atIs_zs {w : World} {base : Nat} {e : TypeId} {D : DataW Unit} {r : Int} {l zs : List Int} {v : Value} (h : atIs D r l) (hat : D.atKey (.int .i32 r) .nil = rowDatum .i64 v zs) (hoi : w.ownsInts base e .i64 v zs) : zs = l := by
  rcases hoi.datum (H := Unit) with ⟨h1, h2⟩ | h1
  · rcases h with ⟨h3, _⟩ | h3
    · rw [h2, h3]
    · rw [hat, h1] at h3; cases h3
  · rcases h with ⟨_, h3⟩ | h3
    · rw [hat, h1] at h3; cases h3
    · rw [hat, h1] at h3
      simp only [DataW.slice.injEq, and_true] at h3
      exact lits_inj h3

/-- Block b is the map of slices that f tells. -/
def GF (w : World) (base b n : Nat) (f : Int → List Int) : Prop :=
  ∃ D : DataW Unit, w.ownsGroups Try.prog 21 base 3 .i64 b n D ∧ IsMap D ∧ ∀ r, (Lit.int .i32 r).wf = true → atIs D r (f r)

/-- Block b is the map of numbers that f tells. -/
def MF (w : World) (b n : Nat) (f : Int → Int) : Prop :=
  ∃ D : DataW Unit, w.ownsMap Try.prog 21 (plainElem Try.prog 3) b n D ∧ IsMap D ∧ ∀ r, (Lit.int .i32 r).wf = true → D.atKey (.int .i32 r) (.lit (.int .i64 0)) = .lit (.int .i64 (f r))

theorem GF_made (w : World) : GF (w.alloc (.map #[] 0)) (w.heap.size + 1) w.heap.size 0 (fun _ => []) :=
  ⟨.map [], World.ownsGroups_made _ _ _ _ _, isMap_empty, fun _ _ => Or.inl ⟨rfl, rfl⟩⟩

theorem MF_made (w : World) : MF (w.alloc (.map #[] 0)) w.heap.size 0 (fun _ => 0) :=
  ⟨.map [], World.ownsMap_made _ _ _ _, isMap_empty, fun _ _ => rfl⟩

theorem GF.later {w w' : World} {base b n : Nat} {f : Int → List Int} (h : GF w base b n f) (hb : Below w.heap.size w w') : GF w' base b n f := by
  obtain ⟨D, h1, h2⟩ := h
  exact ⟨D, ownsGroups_later h1 hb, h2⟩

theorem GF.look {w : World} {base b n : Nat} {f : Int → List Int} (h : GF w base b n f) {r : Int} (hr : (Lit.int .i32 r).wf = true) :
    ∃ v, (∀ w', w'.heap[b]? = w.heap[b]? → (Instr.lookup 30 (.map (some b)) (.int .i32 r) false).run Try.prog w' = .ok v w') ∧ w.ownsInts base 3 .i64 v (f r) ∧ (f r).length ≤ n := by
  obtain ⟨D, h1, _, h3⟩ := h
  obtain ⟨v, zs, hrun, hat, hoi, hl⟩ := groups_look h1 law21 Try.underlying30 zero31 (keyOf_int_mk Try.underlying21 hr)
  have := atIs_zs (h3 r hr) hat hoi
  subst this
  exact ⟨v, hrun, hoi, hl⟩

theorem MF.look {w : World} {b n : Nat} {f : Int → Int} (h : MF w b n f) {r : Int} (hr : (Lit.int .i32 r).wf = true) :
    ∀ w', w'.heap[b]? = w.heap[b]? → (Instr.lookup 32 (.map (some b)) (.int .i32 r) false).run Try.prog w' = .ok (.int .i64 (f r)) w' := by
  intro w' hw'
  obtain ⟨D, h1, _, h3⟩ := h
  obtain ⟨es, clock, hb, F, hs, hD⟩ := h1
  have h1' : w'.ownsMap Try.prog 21 (plainElem Try.prog 3) b n D := ⟨es, clock, hw'.trans hb, F, hs, hD⟩
  obtain ⟨c, hrun, hat, _⟩ := h1'.lookup_int law21 Try.underlying32 Try.underlying3 (zero3 w') (keyOf_int_mk Try.underlying21 hr)
  rw [h3 r hr] at hat
  simp at hat
  rw [hrun, hat]

/-- What the store of the longer slice makes of the datum. -/
theorem atIs_put {w : World} {base : Nat} {e : TypeId} {D : DataW Unit} {f : Int → List Int} {r x : Int} {v : Value} (hm : IsMap D) (hD : ∀ r, (Lit.int .i32 r).wf = true → atIs D r (f r))
    (hoi : w.ownsInts base e .i64 v (f r ++ [x])) : ∀ y, (Lit.int .i32 y).wf = true → atIs (D.put (.int .i32 r) (rowDatum .i64 v (f r ++ [x]))) y (if y = r then f r ++ [x] else f y) := by
  intro y hy
  by_cases h : y = r
  · subst h
    rw [if_pos rfl]
    refine Or.inr ?_
    rw [atKey_put_same hm (k := .int .i32 y) trivial, hoi.datum_pos (by simp)]
  · rw [if_neg h]
    have hne : Lit.int .i32 y ≠ Lit.int .i32 r := fun e1 => h (by simpa using e1)
    have := hD y hy
    unfold atIs at this ⊢
    rw [atKey_put_other hne]
    exact this

theorem MF_put {w : World} {b n : Nat} {f : Int → Int} {r c : Int} {D : DataW Unit} (hm : IsMap D) (hD : ∀ r, (Lit.int .i32 r).wf = true → D.atKey (.int .i32 r) (.lit (.int .i64 0)) = .lit (.int .i64 (f r)))
    (h : w.ownsMap Try.prog 21 (plainElem Try.prog 3) b n (D.put (.int .i32 r) (.lit (.int .i64 c)))) : MF w b n (fun y => if y = r then c else f y) := by
  refine ⟨_, h, hm.put _ _, fun y hy => ?_⟩
  by_cases h : y = r
  · subst h
    show _ = DataW.lit (Lit.int .i64 (if y = y then c else f y))
    rw [if_pos rfl, atKey_put_same hm (k := .int .i32 y) trivial]
  · show _ = DataW.lit (Lit.int .i64 (if y = r then c else f y))
    rw [if_neg h, atKey_put_other (fun e1 => h (by simpa using e1))]
    exact hD y hy

end Go.Proofs.Qxb6003855a
