/-
  The seat b6606064aD: the plain functions: the escaped bytes, and what the hex digits say.
-/
namespace Go.Proofs.Qxb6606064aDoor.Plain

def hx (v : Int) : Int := if v < 10 then 48 + v else 97 + (v - 10)
def esc (c : Int) : List Int :=
  if c = 34 then [92, 34] else if c = 92 then [92, 92] else if c = 8 then [92, 98] else if c = 12 then [92, 102] else if c = 10 then [92, 110] else if c = 13 then [92, 114] else if c = 9 then [92, 116]
  else if c < 32 then [92, 117, 48, 48, hx (c / 16), hx (c % 16)] else [c]
def ESC : List Int → List Int
  | [] => []
  | c :: r => esc c ++ ESC r

theorem ESC_snoc (l : List Int) (c : Int) : ESC (l ++ [c]) = ESC l ++ esc c := by
  induction l with
  | nil => simp [ESC]
  | cons d r ih => simp [ESC, ih]

theorem esc_len (c : Int) : 1 ≤ (esc c).length ∧ (esc c).length ≤ 6 := by
  unfold esc
  repeat' split
  all_goals simp

theorem ESC_len (l : List Int) : (ESC l).length ≤ 6 * l.length := by
  induction l with
  | nil => simp [ESC]
  | cons d r ih =>
    have := (esc_len d).2
    simp only [ESC, List.length_append, List.length_cons]
    omega

theorem ESC_nil {l : List Int} (h : ESC l = []) : l = [] := by
  cases l with
  | nil => rfl
  | cons d r =>
    have := (esc_len d).1
    simp only [ESC, List.append_eq_nil_iff] at h
    rw [h.1] at this
    simp at this

theorem hx_rng {v : Int} (h0 : 0 ≤ v) (h1 : v < 16) : (48 ≤ hx v ∧ hx v ≤ 57 ∧ hx v - 48 = v) ∨ (97 ≤ hx v ∧ hx v ≤ 102 ∧ hx v - 97 + 10 = v) := by
  unfold hx
  split <;> omega

theorem hx_u8 {v : Int} (h0 : 0 ≤ v) (h1 : v < 16) : 0 ≤ hx v ∧ hx v ≤ 255 := by
  rcases hx_rng h0 h1 with h | h <;> omega

theorem esc_u8 {c : Int} (h0 : 0 ≤ c) (h1 : c ≤ 255) : ∀ z ∈ esc c, 0 ≤ z ∧ z ≤ 255 := by
  unfold esc
  repeat' split
  all_goals intro z hz
  all_goals simp only [List.mem_cons, List.not_mem_nil, or_false] at hz
  all_goals try omega
  rcases hz with h | h | h | h | h | h
  · omega
  · omega
  · omega
  · omega
  · subst h; exact hx_u8 (by omega) (by omega)
  · subst h; exact hx_u8 (by omega) (by omega)

theorem ESC_u8 {l : List Int} (h : ∀ z ∈ l, 0 ≤ z ∧ z ≤ 255) : ∀ z ∈ ESC l, 0 ≤ z ∧ z ≤ 255 := by
  induction l with
  | nil => intro z hz; simp [ESC] at hz
  | cons d r ih =>
    intro z hz
    simp only [ESC, List.mem_append] at hz
    rcases hz with hz | hz
    · exact esc_u8 (h d (by simp)).1 (h d (by simp)).2 z hz
    · exact ih (fun y hy => h y (by simp [hy])) z hz

/-- The number that a row of hex digits says. -/
def dv (z : Int) : Int := if z ≤ 57 then z - 48 else z - 97 + 10
def hv (l : List Int) : Int := l.foldl (fun n z => n * 16 + dv z) 0

end Go.Proofs.Qxb6606064aDoor.Plain
