/-
  THE PLAIN MATHEMATICS OF 'isDecimalFloat' AND OF THE AUTOMATON: no Go in sight.
-/
namespace FloatPlain

def dig (c : UInt8) : Bool := decide (48 ≤ (c.toNat : Int)) && decide ((c.toNat : Int) ≤ 57)

def cnt : List UInt8 → Nat
  | [] => 0
  | c :: l => if dig c then cnt l + 1 else 0

def sgn (c : UInt8) : Bool := (c.toNat : Int) == 45 || (c.toNat : Int) == 43
def exq (c : UInt8) : Bool := (c.toNat : Int) == 101 || (c.toNat : Int) == 69
def dot (c : UInt8) : Bool := (c.toNat : Int) == 46

def strip : List UInt8 → List UInt8
  | [] => []
  | c :: r => if sgn c then r else c :: r

/-- behind the whole digits: how many digits of a fraction, and what is left -/
def frac : List UInt8 → Nat × List UInt8
  | [] => (0, [])
  | c :: r => if dot c then (cnt r, r.drop (cnt r)) else (0, c :: r)

def expo (l : List UInt8) : Bool := if cnt l == 0 then false else (l.drop (cnt l)).isEmpty

def tailOk : List UInt8 → Bool
  | [] => true
  | c :: r => if exq c then expo (strip r) else false

def rest (a : List UInt8) : Bool :=
  if cnt a == 0 && (frac (a.drop (cnt a))).1 == 0 then false else tailOk (frac (a.drop (cnt a))).2

def isDec (l : List UInt8) : Bool := rest (strip l)

def stp (st : Nat) (c : UInt8) : Int :=
  match st with
  | 0 => if sgn c then 1 else if dig c then 2 else if dot c then 3 else -1
  | 1 => if dig c then 2 else if dot c then 3 else -1
  | 2 => if dig c then 2 else if dot c then 4 else if exq c then 6 else -1
  | 3 => if dig c then 4 else -1
  | 4 => if dig c then 4 else if exq c then 6 else -1
  | 6 => if sgn c then 7 else if dig c then 8 else -1
  | 7 => if dig c then 8 else -1
  | 8 => if dig c then 8 else -1
  | _ => -1

def run (st : Nat) : List UInt8 → Bool
  | [] => st == 2 || st == 4 || st == 8
  | c :: l => if stp st c < 0 then false else run (stp st c).toNat l

theorem stp_range (st : Nat) (c : UInt8) : -1 ≤ stp st c ∧ stp st c ≤ 8 := by
  unfold stp
  split <;> (repeat' split) <;> omega

theorem apart (c : UInt8) : (dig c = true → sgn c = false ∧ exq c = false ∧ dot c = false) ∧ (sgn c = true → exq c = false ∧ dot c = false) ∧ (exq c = true → dot c = false) := by
  unfold dig sgn exq dot
  simp only [Bool.and_eq_true, decide_eq_true_eq, Bool.or_eq_true, beq_iff_eq, Bool.or_eq_false_iff, beq_eq_false_iff_ne, ne_eq]
  omega

theorem run8 (l : List UInt8) : run 8 l = (l.drop (cnt l)).isEmpty := by
  induction l with
  | nil => rfl
  | cons c l ih =>
    by_cases h : dig c = true
    · simp [run, stp, cnt, h, ih]
    · simp [run, stp, cnt, h]

theorem run7 (l : List UInt8) : run 7 l = expo l := by
  cases l with
  | nil => rfl
  | cons c l =>
    by_cases h : dig c = true
    · simp [run, stp, cnt, h, expo, run8]
    · simp [run, stp, cnt, h, expo]

theorem run6 (l : List UInt8) : run 6 l = expo (strip l) := by
  cases l with
  | nil => rfl
  | cons c l =>
    by_cases hs : sgn c = true
    · simp [run, stp, hs, strip, run7]
    · by_cases h : dig c = true
      · simp [run, stp, cnt, h, hs, expo, strip, run8]
      · simp [run, stp, cnt, h, hs, expo, strip]

theorem run4 (l : List UInt8) : run 4 l = tailOk (l.drop (cnt l)) := by
  induction l with
  | nil => rfl
  | cons c l ih =>
    by_cases h : dig c = true
    · simp [run, stp, cnt, h, ih]
    · by_cases he : exq c = true
      · simp [run, stp, cnt, h, he, tailOk, run6]
      · simp [run, stp, cnt, h, he, tailOk]

theorem run3 (l : List UInt8) : run 3 l = if cnt l == 0 then false else tailOk (l.drop (cnt l)) := by
  cases l with
  | nil => rfl
  | cons c l =>
    by_cases h : dig c = true
    · simp [run, stp, cnt, h, run4]
    · simp [run, stp, cnt, h]

theorem run2 (l : List UInt8) : run 2 l = tailOk (frac (l.drop (cnt l))).2 := by
  induction l with
  | nil => rfl
  | cons c l ih =>
    by_cases h : dig c = true
    · simp [run, stp, cnt, h, ih]
    · by_cases hd : dot c = true
      · simp [run, stp, cnt, h, hd, frac, run4]
      · by_cases he : exq c = true
        · simp [run, stp, cnt, h, hd, he, frac, tailOk, run6]
        · simp [run, stp, cnt, h, hd, he, frac, tailOk]

theorem run1 (l : List UInt8) : run 1 l = rest l := by
  cases l with
  | nil => rfl
  | cons c l =>
    by_cases h : dig c = true
    · simp [run, stp, cnt, h, rest, run2]
    · by_cases hd : dot c = true
      · simp [run, stp, cnt, h, hd, rest, frac, run3]
      · simp [run, stp, cnt, h, hd, rest, frac]

theorem run0 (l : List UInt8) : run 0 l = isDec l := by
  cases l with
  | nil => rfl
  | cons c l =>
    by_cases hs : sgn c = true
    · simp [run, stp, hs, isDec, strip, run1]
    · have e : run 0 (c :: l) = run 1 (c :: l) := by simp [run, stp, hs]
      rw [e, run1]
      simp [isDec, strip, hs]

theorem cnt_le (l : List UInt8) : cnt l ≤ l.length := by
  induction l with
  | nil => exact Nat.le_refl _
  | cons c l ih => unfold cnt; split <;> simp; omega

theorem cnt_drop (l : List UInt8) (k : Nat) (h : k < l.length) (hd : dig l[k] = true) : cnt (l.drop k) = cnt (l.drop (k + 1)) + 1 := by
  rw [List.drop_eq_getElem_cons h]; simp [cnt, hd]

theorem cnt_stop (l : List UInt8) (k : Nat) (h : k < l.length) (hd : dig l[k] = false) : cnt (l.drop k) = 0 := by
  rw [List.drop_eq_getElem_cons h]; simp [cnt, hd]

theorem run_step (l : List UInt8) (k st : Nat) (h : k < l.length) (hs : ¬ stp st l[k] < 0) : run st (l.drop k) = run (stp st l[k]).toNat (l.drop (k + 1)) := by
  rw [List.drop_eq_getElem_cons h]; simp [run, hs]

theorem run_stop (l : List UInt8) (k st : Nat) (h : k < l.length) (hs : stp st l[k] < 0) : run st (l.drop k) = false := by
  rw [List.drop_eq_getElem_cons h]; simp [run, hs]

end FloatPlain
