/-
  THE PLAIN MATHEMATICS OF THE BACKSLASH-RUN MODEL: no Go in sight.
-/
import Derived.Test.Qxb6604015aQuotePlain
namespace Quote

/-- the text without its escapes; the flag: the next byte is escaped -/
def un : Bool → List UInt8 → List UInt8
  | _, [] => []
  | true, c :: r => c :: un false r
  | false, c :: r => if c == 92 then un true r else c :: un false r

/-- is the byte behind the text escaped -/
def st : Bool → List UInt8 → Bool
  | b, [] => b
  | true, _ :: r => st false r
  | false, c :: r => st (c == 92) r

/-- the run of backslashes at the text's end -/
def rn (l : List UInt8) : Nat := l.foldl (fun k c => if c == 92 then k + 1 else 0) 0

theorem rn_snoc (l : List UInt8) (c : UInt8) : rn (l ++ [c]) = if c == 92 then rn l + 1 else 0 := by simp [rn]

theorem st_snoc (b : Bool) (l : List UInt8) (c : UInt8) : st b (l ++ [c]) = if st b l then false else c == 92 := by
  induction l generalizing b with
  | nil => cases b <;> simp [st]
  | cons d r ih => cases b <;> simp only [List.cons_append, st, ih] <;> rfl

theorem un_snoc (b : Bool) (l : List UInt8) (c : UInt8) : un b (l ++ [c]) = un b l ++ (if st b l then [c] else if c == 92 then [] else [c]) := by
  induction l generalizing b with
  | nil =>
    cases b
    · simp only [List.nil_append, un, st]
      by_cases h : (c == 92) = true <;> simp [h]
    · simp [un, st]
  | cons d r ih =>
    cases b
    · simp only [List.cons_append, un, st]
      by_cases h : (d == 92) = true
      · simp only [h, if_true, ih]
      · simp only [h, ih]
        simp
    · simp only [List.cons_append, un, st, ih]
      rfl

/-- what stands behind a text that holds no closing quote -/
def ok (p : List UInt8) : Prop := ∀ r, cq false (p ++ r) = pre (un false p) (cq (st false p) r)

theorem ok_nil : ok [] := fun r => by simp [un, st, pre_nil]

theorem ok_snoc {p : List UInt8} {c : UInt8} (h : ok p) (hc : (c == 34) = false ∨ st false p = true) : ok (p ++ [c]) := by
  intro r
  rw [List.append_assoc, List.singleton_append, h (c :: r), un_snoc, st_snoc]
  cases hs : st false p
  · have h34 : (c == 34) = false := by
      rcases hc with hc | hc
      · exact hc
      · rw [hs] at hc; cases hc
    by_cases h92 : (c == 92) = true
    · simp [cq, h34, h92]
    · have h92' : (c == 92) = false := by simpa using h92
      simp only [cq, h34, h92']
      rw [if_neg (by simp), if_neg (by simp), pre_snoc]
      simp
  · simp only [cq]
    rw [pre_snoc]
    simp

theorem ok_close {p : List UInt8} {c : UInt8} (r : List UInt8) (h : ok p) (h34 : (c == 34) = true) (hs : st false p = false) : cq false (p ++ c :: r) = some (un false p, r) := by
  rw [h, hs]
  simp [cq, h34, pre]

theorem ok_end {p : List UInt8} (h : ok p) : cq false p = none := by
  have h1 := h []
  rw [List.append_nil] at h1
  rw [h1]
  cases st false p <;> simp [cq, pre]

theorem mod_cases (n : Nat) : n % 2 = 0 ∨ n % 2 = 1 := by omega

theorem st_rn (l : List UInt8) : st false l = (rn l % 2 == 1) := by
  rw [← List.reverse_reverse l]
  induction l.reverse with
  | nil => simp [st, rn]
  | cons c r ih =>
    rw [List.reverse_cons, st_snoc, rn_snoc, ih]
    by_cases h : (c == 92) = true
    · simp only [h, if_true]
      rcases mod_cases (rn r.reverse) with h2 | h2
      · have h3 : (rn r.reverse + 1) % 2 = 1 := by omega
        simp [h2, h3]
      · have h3 : (rn r.reverse + 1) % 2 = 0 := by omega
        simp [h2, h3]
    · have h' : (c == 92) = false := by simpa using h
      simp [h']

/-- a run of backslashes is halved -/
theorem un_run (k : Nat) (r : List UInt8) : un false (List.replicate k 92 ++ r) = List.replicate (k / 2) 92 ++ un (k % 2 == 1) r := by
  induction k using Nat.strongRecOn with
  | ind k ih =>
    match k with
    | 0 => simp
    | 1 => simp [un]
    | k + 2 =>
      have h1 : (k + 2) / 2 = k / 2 + 1 := by omega
      have h2 : (k + 2) % 2 = k % 2 := by omega
      rw [h1, h2, List.replicate_succ, List.replicate_succ, List.replicate_succ]
      have h3 : un false (92 :: 92 :: List.replicate k 92 ++ r) = 92 :: un false (List.replicate k 92 ++ r) := by simp [un]
      rw [h3, ih k (by omega)]
      rfl

theorem un_plain {b : Bool} {c : UInt8} {r : List UInt8} (h : (c == 92) = false) : un b (c :: r) = c :: un false r := by
  cases b
  · simp [un, h]
  · simp [un]

theorem un_nil (b : Bool) : un b [] = [] := by cases b <;> rfl

theorem un_len (b : Bool) (l : List UInt8) : (un b l).length ≤ l.length := by
  induction l generalizing b with
  | nil => cases b <;> simp [un]
  | cons c r ih =>
    cases b
    · unfold un
      split
      · have := ih true; simp; omega
      · have := ih false; simp; omega
    · have := ih false; simp [un]; omega
end Quote
