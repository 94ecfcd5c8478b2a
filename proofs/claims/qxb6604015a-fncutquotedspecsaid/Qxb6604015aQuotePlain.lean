/-
  THE PLAIN MATHEMATICS OF 'cutQuoted', OF THE BACKSLASH-RUN MODEL AND OF THE ESCAPING: no Go in sight.
-/
namespace Quote

/-- the quoted text up to its closing quote, and what is left behind it; the flag: the next byte is escaped -/
def cq : Bool → List UInt8 → Option (List UInt8 × List UInt8)
  | _, [] => none
  | true, c :: r => (cq false r).map fun p => (c :: p.1, p.2)
  | false, c :: r => if c == 34 then some ([], r) else if c == 92 then cq true r else (cq false r).map fun p => (c :: p.1, p.2)

def pre (acc : List UInt8) (o : Option (List UInt8 × List UInt8)) : Option (List UInt8 × List UInt8) := o.map fun p => (acc ++ p.1, p.2)

theorem pre_nil (o : Option (List UInt8 × List UInt8)) : pre [] o = o := by cases o <;> simp [pre]
theorem pre_snoc (acc : List UInt8) (c : UInt8) (o : Option (List UInt8 × List UInt8)) : pre acc (o.map fun p => (c :: p.1, p.2)) = pre (acc ++ [c]) o := by
  cases o <;> simp [pre]

theorem cq_plain {acc : List UInt8} {c : UInt8} {r : List UInt8} (h1 : (c == 34) = false) (h2 : (c == 92) = false) : pre acc (cq false (c :: r)) = pre (acc ++ [c]) (cq false r) := by
  simp only [cq, h1, h2]
  exact pre_snoc _ _ _
theorem cq_quote {acc : List UInt8} {c : UInt8} {r : List UInt8} (h1 : (c == 34) = true) : pre acc (cq false (c :: r)) = some (acc, r) := by
  simp [cq, h1, pre]
theorem cq_esc {acc : List UInt8} {c d : UInt8} {r : List UInt8} (h1 : (c == 34) = false) (h2 : (c == 92) = true) : pre acc (cq false (c :: d :: r)) = pre (acc ++ [d]) (cq false r) := by
  simp only [cq, h1, h2]
  exact pre_snoc _ _ _
theorem cq_cut {acc : List UInt8} {c : UInt8} (h1 : (c == 34) = false) (h2 : (c == 92) = true) : pre acc (cq false [c]) = none := by
  simp [cq, h1, h2, pre]

/-- the escaping: a backslash before each quote and backslash, or before each byte -/
def esc (all : Bool) : List UInt8 → List UInt8
  | [] => []
  | c :: r => if all || c == 34 || c == 92 then 92 :: c :: esc all r else c :: esc all r

theorem cq_esc_all (all : Bool) (t tail : List UInt8) : cq false (esc all t ++ 34 :: tail) = some (t, tail) := by
  induction t with
  | nil => simp [esc, cq]
  | cons c r ih =>
    unfold esc
    by_cases h : (all || c == 34 || c == 92) = true
    · rw [if_pos h]
      simp [cq, ih]
    · rw [if_neg h]
      simp only [Bool.or_eq_true, not_or, Bool.not_eq_true] at h
      simp [cq, ih, h.1.2, h.2]

theorem esc_snoc (all : Bool) (l : List UInt8) (c : UInt8) : esc all (l ++ [c]) = esc all l ++ (if all || c == 34 || c == 92 then [92, c] else [c]) := by
  induction l with
  | nil =>
    by_cases h : (all || c == 34 || c == 92) = true
    · simp only [List.nil_append, esc, h, if_true]
    · simp only [List.nil_append, esc, h]
  | cons d r ih =>
    simp only [List.cons_append, esc]
    rw [ih]
    by_cases h : (all || d == 34 || d == 92) = true
    · simp only [h, if_true, List.cons_append]
    · simp only [h]; rfl

theorem esc_len (all : Bool) (l : List UInt8) : (esc all l).length ≤ 2 * l.length := by
  induction l with
  | nil => simp [esc]
  | cons c r ih =>
    unfold esc
    split <;> simp <;> omega

end Quote
