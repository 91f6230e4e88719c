/-
  The seat b6605380a: plain mathematics: reading a quoted word, and quoting. Bytes are numbers.
-/
namespace Go.Proofs.Qxb6605380a.Plain

/-- Is c a quote? -/
def isQ (c : Int) : Bool := c == 96 || c == 34

/-- Reading the rest of a word: q: the open quote, or 0; d: was there a dot outside; out: what has been read. -/
def unq (q : Int) (d : Bool) (out : List Int) : List Int → List Int × Bool
  | [] => (out, d)
  | c :: rest =>
    if q = 0 then
      if isQ c then unq c d out rest else unq 0 (d || c == 46) (out ++ [c]) rest
    else if c = q then
      match rest with
      | [] => (out, d)
      | c' :: rest' => if c' = q then unq q d (out ++ [c]) rest' else unq 0 d out (c' :: rest')
    else unq q d (out ++ [c]) rest

theorem unq_nil (q : Int) (d : Bool) (out : List Int) : unq q d out [] = (out, d) := by unfold unq; rfl

theorem unq_open {c : Int} (d : Bool) (out rest : List Int) (h : isQ c = true) : unq 0 d out (c :: rest) = unq c d out rest := by
  conv => lhs; unfold unq
  rw [if_pos rfl, if_pos h]
theorem unq_bare {c : Int} (d : Bool) (out rest : List Int) (h : isQ c = false) : unq 0 d out (c :: rest) = unq 0 (d || c == 46) (out ++ [c]) rest := by
  conv => lhs; unfold unq
  rw [if_pos rfl, if_neg (by rw [h]; simp)]
theorem unq_in {q c : Int} (d : Bool) (out rest : List Int) (hq : q ≠ 0) (h : c ≠ q) : unq q d out (c :: rest) = unq q d (out ++ [c]) rest := by
  conv => lhs; unfold unq
  rw [if_neg hq, if_neg h]
theorem unq_twice {q : Int} (d : Bool) (out rest : List Int) (hq : q ≠ 0) : unq q d out (q :: q :: rest) = unq q d (out ++ [q]) rest := by
  conv => lhs; unfold unq
  rw [if_neg hq, if_pos rfl]
  simp
theorem unq_end {q : Int} (d : Bool) (out : List Int) (hq : q ≠ 0) : unq q d out [q] = (out, d) := by
  unfold unq
  rw [if_neg hq, if_pos rfl]
theorem unq_close {q c : Int} (d : Bool) (out rest : List Int) (hq : q ≠ 0) (h : c ≠ q) : unq q d out (q :: c :: rest) = unq 0 d out (c :: rest) := by
  conv => lhs; unfold unq
  rw [if_neg hq, if_pos rfl]
  simp [h]
/-- The closing quote, at the end or not. -/
theorem unq_shut {q : Int} (d : Bool) (out rest : List Int) (hq : q ≠ 0) (h : rest.head? ≠ some q) : unq q d out (q :: rest) = unq 0 d out rest := by
  cases rest with
  | nil => rw [unq_end d out hq, unq_nil]
  | cons c rest => exact unq_close d out rest hq (by simpa using h)

/-- A part with its quotes doubled. -/
def dbl (q : Int) (l : List Int) : List Int := l.flatMap (fun c => if c = q then [q, c] else [c])
def quoted (q : Int) (l : List Int) : List Int := [q] ++ dbl q l ++ [q]

theorem dbl_snoc (q : Int) (l : List Int) (c : Int) : dbl q (l ++ [c]) = dbl q l ++ (if c = q then [q, c] else [c]) := by simp [dbl]

theorem dbl_len (q : Int) (l : List Int) : (dbl q l).length ≤ 2 * l.length := by
  induction l with
  | nil => simp [dbl]
  | cons c l ih =>
    have e : dbl q (c :: l) = (if c = q then [q, c] else [c]) ++ dbl q l := by simp [dbl]
    rw [e, List.length_append, List.length_cons]
    split <;> simp <;> omega

theorem unq_dbl {q : Int} (d : Bool) (rest : List Int) (hq : q ≠ 0) (h : rest.head? ≠ some q) : ∀ (l out : List Int), unq q d out (dbl q l ++ q :: rest) = unq 0 d (out ++ l) rest
  | [], out => by simp only [dbl, List.flatMap_nil, List.nil_append, List.append_nil]; exact unq_shut d out rest hq h
  | c :: l, out => by
    have e : dbl q (c :: l) = (if c = q then [q, c] else [c]) ++ dbl q l := by simp [dbl]
    rw [e]
    by_cases hc : c = q
    · subst hc
      rw [if_pos rfl]
      show unq c d out (c :: c :: (dbl c l ++ c :: rest)) = _
      rw [unq_twice d out _ hq, unq_dbl d rest hq h l]
      simp
    · rw [if_neg hc]
      show unq q d out (c :: (dbl q l ++ q :: rest)) = _
      rw [unq_in d out _ hq hc, unq_dbl d rest hq h l]
      simp

theorem unq_quoted {q : Int} (d : Bool) (l out rest : List Int) (hq : isQ q = true) (h : rest.head? ≠ some q) : unq 0 d out (quoted q l ++ rest) = unq 0 d (out ++ l) rest := by
  have hq0 : q ≠ 0 := by intro e; subst e; simp [isQ] at hq
  have e : quoted q l ++ rest = q :: (dbl q l ++ q :: rest) := by simp [quoted]
  rw [e, unq_open d out _ hq, unq_dbl d rest hq0 h]

/-- One part. -/
theorem unq_one {q : Int} (a : List Int) (hq : isQ q = true) : unq 0 false [] (quoted q a) = (a, false) := by
  have := unq_quoted false a [] [] hq (by simp)
  rw [List.append_nil] at this
  rw [this, unq_nil]
  simp

/-- Two parts. -/
theorem unq_two {qa qb : Int} (a b : List Int) (ha : isQ qa = true) (hb : isQ qb = true) : unq 0 false [] (quoted qa a ++ [46] ++ quoted qb b) = (a ++ [46] ++ b, true) := by
  have h46 : isQ 46 = false := by decide
  have hne : (([46] : List Int) ++ quoted qb b).head? ≠ some qa := by
    have : qa ≠ 46 := by intro e; subst e; simp [isQ] at ha
    simp; exact fun e => this e.symm
  rw [List.append_assoc, unq_quoted false a [] _ ha hne]
  show unq 0 false ([] ++ a) (46 :: quoted qb b) = _
  rw [unq_bare _ _ _ h46]
  have := unq_quoted (false || (46 : Int) == 46) b ([] ++ a ++ [46]) [] hb (by simp)
  rw [List.append_nil] at this
  rw [this, unq_nil]
  simp

/-- The bytes read are bytes of the word, and no more than it has. -/
theorem unq_len : ∀ (n : Nat) (l : List Int), l.length ≤ n → ∀ (q : Int) (d : Bool) (out : List Int), (unq q d out l).1.length ≤ out.length + l.length
  | _, [], _, q, d, out => by simp [unq_nil]
  | 0, c :: l, h, _, _, _ => by simp at h
  | n + 1, c :: l, h, q, d, out => by
    have hl : l.length ≤ n := by simpa using h
    by_cases hq : q = 0
    · subst hq
      cases hc : isQ c with
      | true => rw [unq_open d out l hc]; have := unq_len n l hl c d out; simp; omega
      | false => rw [unq_bare d out l hc]; have := unq_len n l hl 0 (d || c == 46) (out ++ [c]); simp at this ⊢; omega
    · by_cases hc : c = q
      · subst hc
        cases l with
        | nil => rw [unq_end d out hq]; simp
        | cons c' l =>
          by_cases hc' : c' = c
          · subst hc'
            rw [unq_twice d out l hq]
            have := unq_len n l (by simp at hl; omega) c' d (out ++ [c'])
            simp at this ⊢; omega
          · rw [unq_close d out l hq hc']
            have := unq_len n (c' :: l) hl 0 d out
            simp at this ⊢; omega
      · rw [unq_in d out l hq hc]
        have := unq_len n l hl q d (out ++ [c])
        simp at this ⊢; omega

end Go.Proofs.Qxb6605380a.Plain
