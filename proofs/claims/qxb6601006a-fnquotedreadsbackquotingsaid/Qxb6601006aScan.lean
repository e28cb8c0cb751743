/-
  PLAIN: how far a quoted token reaches, and whether a bare backslash was met in it. No Go in sight.
-/
namespace Go.Proofs.Qxb6601006a

/-- Of the bytes behind the opening quote: how many belong to the token, and whether a backslash that escapes nothing was met in a token of single quotes. -/
def scanQ (q : UInt8) (esc : Bool) : List UInt8 → Nat × Bool
  | [] => (0, false)
  | [c] => (1, (c == 92) && !esc && (q == 39))
  | c :: d :: r =>
    if c = 92 then
      if esc = true then ((scanQ q esc r).1 + 2, (scanQ q esc r).2)
      else ((scanQ q esc (d :: r)).1 + 1, (q == 39) || (scanQ q esc (d :: r)).2)
    else if c = q then
      if d = q then ((scanQ q esc r).1 + 2, (scanQ q esc r).2) else (1, false)
    else ((scanQ q esc (d :: r)).1 + 1, (scanQ q esc (d :: r)).2)

/-- What is left to be found at place j, the flag being b so far: the token's end in the whole, the flag in the end. -/
def rem (q : UInt8) (esc : Bool) (L : List UInt8) (j : Nat) (b : Bool) : Nat × Bool :=
  (min j L.length + (scanQ q esc (L.drop j)).1, b || (scanQ q esc (L.drop j)).2)

theorem scan_le (q : UInt8) (esc : Bool) : ∀ l : List UInt8, (scanQ q esc l).1 ≤ l.length
  | [] => by simp [scanQ]
  | [c] => by simp [scanQ]
  | c :: d :: r => by
    have h1 := scan_le q esc r
    have h2 := scan_le q esc (d :: r)
    simp only [List.length_cons] at *
    unfold scanQ
    split
    · split
      · simp only; omega
      · simp only; omega
    · split
      · split
        · simp only; omega
        · simp only; omega
      · simp only; omega

theorem rem_le (q : UInt8) (esc : Bool) (L : List UInt8) (j : Nat) (b : Bool) : (rem q esc L j b).1 ≤ L.length := by
  have := scan_le q esc (L.drop j)
  simp only [rem, List.length_drop] at *
  omega

theorem rem_end {q : UInt8} {esc : Bool} {L : List UInt8} {j : Nat} {b : Bool} (h : L.length ≤ j) : rem q esc L j b = (L.length, b) := by
  simp only [rem, List.drop_eq_nil_of_le h, scanQ, Bool.or_false, Nat.add_zero]
  rw [Nat.min_eq_right h]

theorem drop_one {L : List UInt8} {j : Nat} (h : j + 1 = L.length) : L.drop j = [L[j]'(by omega)] := by
  rw [List.drop_eq_getElem_cons (by omega), List.drop_eq_nil_of_le (by omega)]

theorem drop_two {L : List UInt8} {j : Nat} (h : j + 1 < L.length) : L.drop j = L[j]'(by omega) :: L[j + 1]'h :: L.drop (j + 2) := by
  rw [List.drop_eq_getElem_cons (by omega), List.drop_eq_getElem_cons h]

theorem drop_succ {L : List UInt8} {j : Nat} (h : j + 1 < L.length) : L.drop (j + 1) = L[j + 1]'h :: L.drop (j + 2) := List.drop_eq_getElem_cons h

/-- A backslash that escapes. -/
theorem rem_esc {q : UInt8} {L : List UInt8} {j : Nat} {b : Bool} (h : j < L.length) (hc : L[j] = 92) : rem q true L j b = rem q true L (j + 2) b := by
  by_cases h1 : j + 1 < L.length
  · simp only [rem, drop_two h1, hc, scanQ, if_true]
    rw [Nat.min_eq_left (by omega), Nat.min_eq_left (by omega)]
    congr 1; omega
  · rw [rem_end (j := j + 2) (by omega)]
    simp only [rem, drop_one (show j + 1 = L.length by omega), scanQ, Bool.not_true, Bool.and_false, Bool.false_and, Bool.or_false]
    rw [Nat.min_eq_left (by omega)]
    congr 1; omega

/-- A backslash that escapes nothing. -/
theorem rem_bare {q : UInt8} {L : List UInt8} {j : Nat} {b : Bool} (h : j < L.length) (hc : L[j] = 92) : rem q false L j b = rem q false L (j + 1) (b || (q == 39)) := by
  by_cases h1 : j + 1 < L.length
  · simp only [rem, drop_two h1, hc, scanQ, if_true, drop_succ h1, Bool.or_assoc]
    rw [Nat.min_eq_left (by omega), Nat.min_eq_left (by omega), if_neg (by decide)]
    simp only
    congr 1; omega
  · rw [rem_end (j := j + 1) (by omega)]
    simp only [rem, drop_one (show j + 1 = L.length by omega), scanQ, hc]
    rw [Nat.min_eq_left (by omega)]
    have : j + 1 = L.length := by omega
    simp [this]

/-- A byte that is neither. -/
theorem rem_plain {q : UInt8} {esc : Bool} {L : List UInt8} {j : Nat} {b : Bool} (h : j < L.length) (hc : L[j] ≠ 92) (hq : L[j] ≠ q) : rem q esc L j b = rem q esc L (j + 1) b := by
  by_cases h1 : j + 1 < L.length
  · simp only [rem, drop_two h1, scanQ, drop_succ h1]
    rw [if_neg hc, if_neg hq, Nat.min_eq_left (by omega), Nat.min_eq_left (by omega)]
    simp only
    congr 1; omega
  · rw [rem_end (j := j + 1) (by omega)]
    simp only [rem, drop_one (show j + 1 = L.length by omega), scanQ]
    rw [Nat.min_eq_left (by omega)]
    have : j + 1 = L.length := by omega
    simp [this, hc]

/-- The quote, doubled. -/
theorem rem_dbl {q : UInt8} {esc : Bool} {L : List UInt8} {j : Nat} {b : Bool} (h1 : j + 1 < L.length) (hc : L[j]'(by omega) ≠ 92) (hq : L[j]'(by omega) = q) (hd : L[j + 1] = q) : rem q esc L j b = rem q esc L (j + 2) b := by
  simp only [rem, drop_two h1, scanQ]
  rw [if_neg hc, if_pos hq, if_pos hd, Nat.min_eq_left (by omega), Nat.min_eq_left (by omega)]
  simp only
  congr 1; omega

/-- The quote that closes. -/
theorem rem_close {q : UInt8} {esc : Bool} {L : List UInt8} {j : Nat} {b : Bool} (h : j < L.length) (hc : L[j] ≠ 92) (hq : L[j] = q) (hd : ∀ h1 : j + 1 < L.length, L[j + 1] ≠ q) : rem q esc L j b = (j + 1, b) := by
  by_cases h1 : j + 1 < L.length
  · simp only [rem, drop_two h1, scanQ]
    rw [if_neg hc, if_pos hq, if_neg (hd h1), Nat.min_eq_left (by omega)]
    simp
  · simp only [rem, drop_one (show j + 1 = L.length by omega), scanQ]
    rw [Nat.min_eq_left (by omega)]
    simp [hc]

theorem scan_two (q : UInt8) (esc : Bool) (c d : UInt8) (r : List UInt8) : scanQ q esc (c :: d :: r) =
    if c = 92 then
      if esc = true then ((scanQ q esc r).1 + 2, (scanQ q esc r).2)
      else ((scanQ q esc (d :: r)).1 + 1, (q == 39) || (scanQ q esc (d :: r)).2)
    else if c = q then
      if d = q then ((scanQ q esc r).1 + 2, (scanQ q esc r).2) else (1, false)
    else ((scanQ q esc (d :: r)).1 + 1, (scanQ q esc (d :: r)).2) := by rw [scanQ]

/-- ONCE CLOSED, WHAT FOLLOWS DOES NOT COUNT. -/
theorem scan_append (q : UInt8) (esc : Bool) (m : List UInt8) : ∀ l : List UInt8, (scanQ q esc l).1 ≠ l.length → scanQ q esc (l ++ m) = scanQ q esc l
  | [], h => by simp [scanQ] at h
  | [c], h => by simp [scanQ] at h
  | c :: d :: r, h => by
    have h1 := scan_append q esc m r
    have h2 := scan_append q esc m (d :: r)
    simp only [List.length_cons, List.cons_append] at *
    rw [scan_two] at h
    rw [scan_two, scan_two]
    split
    · rename_i hc
      rw [if_pos hc] at h
      split
      · rename_i he
        rw [if_pos he] at h
        simp only at h
        rw [h1 (by omega)]
      · rename_i he
        rw [if_neg he] at h
        simp only at h
        rw [h2 (by omega)]
    · rename_i hc
      rw [if_neg hc] at h
      split
      · rename_i hq
        rw [if_pos hq] at h
        split
        · rename_i hd
          rw [if_pos hd] at h
          simp only at h
          rw [h1 (by omega)]
        · rfl
      · rename_i hq
        rw [if_neg hq] at h
        simp only at h
        rw [h2 (by omega)]

theorem rem_append (q : UInt8) (esc : Bool) (L m : List UInt8) (b : Bool) (h : (rem q esc L 1 b).1 ≠ L.length) : rem q esc (L ++ m) 1 b = rem q esc L 1 b := by
  cases L with
  | nil => simp [rem, scanQ] at h
  | cons x r =>
    simp only [rem, List.drop_succ_cons, List.drop_zero, List.length_cons, List.cons_append] at *
    rw [scan_append q esc m r (by omega)]
    congr 2

/-- The content s, as PostgreSQL writes it. -/
def body (q : UInt8) (esc : Bool) : List UInt8 → List UInt8
  | [] => []
  | c :: r => (if esc = true ∧ (c = q ∨ c = 92) then [92, c] else if esc = false ∧ c = q then [q, c] else [c]) ++ body q esc r

/-- Is there a backslash in it? -/
def hasBs (s : List UInt8) : Bool := s.any (· == 92)

/-- A quoted content is read back whole. -/
theorem scan_body (q : UInt8) (esc : Bool) (t : List UInt8) (hq : q ≠ 92) (ht : t.head? ≠ some q) : ∀ s : List UInt8, scanQ q esc (body q esc s ++ q :: t) = ((body q esc s).length + 1, !esc && (q == 39) && hasBs s)
  | [] => by
    cases t with
    | nil => simp [body, scanQ, hasBs, hq]
    | cons d r =>
      have hd : d ≠ q := by simpa using ht
      simp [body, scanQ, hasBs, hq, hd]
  | c :: r => by
    have ih := scan_body q esc t hq ht r
    obtain ⟨x, y, hxy⟩ : ∃ x y, body q esc r ++ q :: t = x :: y := by
      cases h : body q esc r with
      | nil => exact ⟨q, t, rfl⟩
      | cons a b => exact ⟨a, b ++ q :: t, rfl⟩
    cases esc with
    | true =>
      by_cases hc : c = q ∨ c = 92
      · simp only [body, hc, and_self, if_true, List.cons_append, List.nil_append, scanQ]
        rw [ih]
        simp
      · have h1 : c ≠ q := fun h => hc (Or.inl h)
        have h2 : c ≠ 92 := fun h => hc (Or.inr h)
        have e : body q true (c :: r) = c :: body q true r := by simp [body, h1, h2]
        rw [e, List.cons_append, hxy, scanQ, if_neg h2, if_neg h1, ← hxy, ih]
        simp
    | false =>
      by_cases hc : c = q
      · have e : body q false (c :: r) = q :: c :: body q false r := by simp [body, hc]
        have h3 : (c == 92) = false := by rw [beq_eq_false_iff_ne, hc]; exact hq
        rw [e, List.cons_append, List.cons_append, scanQ, if_neg hq, if_pos rfl, if_pos hc, ih]
        simp [hasBs, h3]
      · have e : body q false (c :: r) = c :: body q false r := by simp [body, hc]
        rw [e, List.cons_append, hxy]
        by_cases h2 : c = 92
        · have h3 : (c == 92) = true := by rw [beq_iff_eq]; exact h2
          rw [scanQ, if_pos h2, if_neg (by decide), ← hxy, ih]
          cases hq39 : (q == 39) <;> simp [hasBs, h3]
        · have h3 : (c == 92) = false := by rw [beq_eq_false_iff_ne]; exact h2
          rw [scanQ, if_neg h2, if_neg hc, ← hxy, ih]
          simp [hasBs, h3]

/-- The whole text: an opening quote, the content, a closing one. -/
theorem rem_body (q : UInt8) (esc : Bool) (t s : List UInt8) (b : Bool) (hq : q ≠ 92) (ht : t.head? ≠ some q) :
    rem q esc (q :: (body q esc s ++ q :: t)) 1 b = ((body q esc s).length + 2, b || (!esc && (q == 39) && hasBs s)) := by
  simp only [rem, List.drop_succ_cons, List.drop_zero, List.length_cons]
  rw [scan_body q esc t hq ht s]
  congr 1
  simp only
  omega
end Go.Proofs.Qxb6601006a
