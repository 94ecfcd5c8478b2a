/-
  THE PLAIN MATHEMATICS OF 'leadingColons' AND OF THE NEAREST-LINE MODEL: no Go in sight.
  A text is a function from unit numbers to codes.
-/
namespace Colons

def blank (c : Int) : Bool := c == 32 || c == 9
def brk (c : Int) : Bool := c == 10 || c == 13
def mark (c : Int) : Bool := c == 45 || c == 63 || c == 58
def skipc (c : Int) : Bool := c == 10 || c == 13 || c == 35

/-- the first unit from j on that is no blank, f units looked at -/
def sb (X : Nat → Int) : Nat → Nat → Nat
  | 0, j => j
  | f + 1, j => if blank (X j) then sb X f (j + 1) else j

/-- the unit past the break that ends the line at j, f units looked at -/
def nl (X : Nat → Int) : Nat → Nat → Nat
  | 0, j => j
  | f + 1, j => if brk (X j) then j + 1 else nl X f (j + 1)

/-- the entries of the line at j from unit p on -/
def ents (X : Nat → Int) (n j : Nat) : Nat → Nat → List (Nat × Bool)
  | 0, p => [(p - j + 1, X p == 63)]
  | f + 1, p => (p - j + 1, X p == 63) :: (if mark (X p) then ents X n j f (sb X (n - (p + 1)) (p + 1)) else [])

/-- the openings that start right of col are taken off the end -/
def pop (S : List (Nat × Bool)) (col : Nat) : List (Nat × Bool) := (S.reverse.dropWhile fun e => decide (col < e.1)).reverse

def lastIs (S : List (Nat × Bool)) (col : Nat) : Bool := S.getLast? == some (col, true)

def goC (A : Nat → Int) (n N : Nat) : Nat → Nat → List (Nat × Bool) → List Nat → List Nat
  | 0, _, _, out => out
  | f + 1, j, S, out =>
    if j < N then
      if N ≤ sb A (n - j) j ∨ skipc (A (sb A (n - j) j)) = true then goC A n N f (nl A (N - j) j) S out
      else
        goC A n N f (nl A (N - j) j) (pop S (sb A (n - j) j - j + 1) ++ ents A n j (n - sb A (n - j) j) (sb A (n - j) j))
          (if A (sb A (n - j) j) == 58 && !lastIs (pop S (sb A (n - j) j - j + 1)) (sb A (n - j) j - j + 1) then out ++ [sb A (n - j) j] else out)
    else out

def held (P : List (Nat × List (Nat × Bool))) (col : Nat) : Bool :=
  match P.reverse.find? fun L => decide (L.1 ≤ col) with
  | none => false
  | some L => L.2.any fun e => e == (col, true)

def goM (C : Nat → Int) (n : Nat) : Nat → Nat → List (Nat × List (Nat × Bool)) → List Nat → List Nat
  | 0, _, _, out => out
  | f + 1, j, P, out =>
    if j < n then
      if sb C (n - j) j < n ∧ skipc (C (sb C (n - j) j)) = false then
        goM C n f (nl C (n - j) j) (P ++ [(sb C (n - j) j - j + 1, ents C n j (n - sb C (n - j) j) (sb C (n - j) j))])
          (if C (sb C (n - j) j) == 58 && !held P (sb C (n - j) j - j + 1) then out ++ [sb C (n - j) j] else out)
      else goM C n f (nl C (n - j) j) P out
    else out

/-! ### small facts -/
theorem sb_ge (X : Nat → Int) (f j : Nat) : j ≤ sb X f j := by
  induction f generalizing j with
  | zero => exact Nat.le_refl _
  | succ f ih => unfold sb; split; · have := ih (j + 1); omega
                 · exact Nat.le_refl _
theorem sb_le (X : Nat → Int) (f j : Nat) : sb X f j ≤ j + f := by
  induction f generalizing j with
  | zero => exact Nat.le_refl _
  | succ f ih => unfold sb; split; · have := ih (j + 1); omega
                 · omega
theorem nl_le (X : Nat → Int) (f j : Nat) : nl X f j ≤ j + f := by
  induction f generalizing j with
  | zero => exact Nat.le_refl _
  | succ f ih => unfold nl; split; · omega
                 · have := ih (j + 1); omega
theorem nl_gt (X : Nat → Int) (f j : Nat) : j < nl X (f + 1) j := by
  induction f generalizing j with
  | zero => unfold nl; split <;> simp [nl]
  | succ f ih => unfold nl; split; · omega
                 · have := ih (j + 1); omega
theorem sb_blank (X : Nat → Int) (f j t : Nat) (h1 : j ≤ t) (h2 : t < sb X f j) : blank (X t) = true := by
  induction f generalizing j with
  | zero => simp [sb] at h2; omega
  | succ f ih =>
    unfold sb at h2
    by_cases hb : blank (X j) = true
    · rw [if_pos hb] at h2
      by_cases e : t = j
      · rw [e]; exact hb
      · exact ih (j + 1) (by omega) h2
    · rw [if_neg hb] at h2; omega
theorem blank_not_brk {c : Int} (h : blank c = true) : brk c = false := by
  unfold blank at h; unfold brk
  simp only [Bool.or_eq_true, beq_iff_eq] at h
  simp only [Bool.or_eq_false_iff, beq_eq_false_iff_ne, ne_eq]; omega
/-- no break from j on: the line ends where the units end -/
theorem nl_none (X : Nat → Int) (f j : Nat) (h : ∀ t, j ≤ t → t < j + f → brk (X t) = false) : nl X f j = j + f := by
  induction f generalizing j with
  | zero => rfl
  | succ f ih =>
    unfold nl
    rw [if_neg (by rw [h j (Nat.le_refl _) (by omega)]; simp), ih (j + 1) (fun t h1 h2 => h t (by omega) (by omega))]; omega
/-- one unit more at the end that is no break -/
theorem nl_more (X : Nat → Int) (f j : Nat) (h : brk (X (j + f)) = false) : nl X (f + 1) j = nl X f j ∨ (nl X f j = j + f ∧ nl X (f + 1) j = j + f + 1) := by
  induction f generalizing j with
  | zero => right; refine ⟨rfl, ?_⟩; unfold nl; rw [if_neg (by rw [show j = j + 0 from rfl, h]; simp)]; rfl
  | succ f ih =>
    have e1 : nl X (f + 1 + 1) j = if brk (X j) then j + 1 else nl X (f + 1) (j + 1) := rfl
    have e2 : nl X (f + 1) j = if brk (X j) then j + 1 else nl X f (j + 1) := rfl
    rw [e1, e2]
    by_cases hb : brk (X j) = true
    · left; rw [if_pos hb, if_pos hb]
    · rw [if_neg hb, if_neg hb]
      rcases ih (j + 1) (by rw [show j + 1 + f = j + (f + 1) by omega]; exact h) with h' | ⟨h1, h2⟩
      · left; exact h'
      · right; exact ⟨by omega, by omega⟩

/-! ### the same tests, the same functions -/
def Alike (A C : Nat → Int) : Prop := ∀ t, (A t == 32) = (C t == 32) ∧ (A t == 9) = (C t == 9) ∧ (A t == 10) = (C t == 10) ∧ (A t == 13) = (C t == 13) ∧ (A t == 35) = (C t == 35) ∧ (A t == 45) = (C t == 45) ∧ (A t == 63) = (C t == 63) ∧ (A t == 58) = (C t == 58)

theorem Alike.blank {A C : Nat → Int} (h : Alike A C) (t : Nat) : Colons.blank (A t) = Colons.blank (C t) := by unfold Colons.blank; rw [(h t).1, (h t).2.1]
theorem Alike.brk {A C : Nat → Int} (h : Alike A C) (t : Nat) : Colons.brk (A t) = Colons.brk (C t) := by unfold Colons.brk; rw [(h t).2.2.1, (h t).2.2.2.1]
theorem Alike.skipc {A C : Nat → Int} (h : Alike A C) (t : Nat) : Colons.skipc (A t) = Colons.skipc (C t) := by unfold Colons.skipc; rw [(h t).2.2.1, (h t).2.2.2.1, (h t).2.2.2.2.1]
theorem Alike.mark {A C : Nat → Int} (h : Alike A C) (t : Nat) : Colons.mark (A t) = Colons.mark (C t) := by unfold Colons.mark; rw [(h t).2.2.2.2.2.1, (h t).2.2.2.2.2.2.1, (h t).2.2.2.2.2.2.2]
theorem Alike.sb {A C : Nat → Int} (h : Alike A C) (f j : Nat) : Colons.sb A f j = Colons.sb C f j := by
  induction f generalizing j with
  | zero => rfl
  | succ f ih => unfold Colons.sb; rw [h.blank, ih]
theorem Alike.nl {A C : Nat → Int} (h : Alike A C) (f j : Nat) : Colons.nl A f j = Colons.nl C f j := by
  induction f generalizing j with
  | zero => rfl
  | succ f ih => unfold Colons.nl; rw [h.brk, ih]
theorem Alike.ents {A C : Nat → Int} (h : Alike A C) (n j f p : Nat) : Colons.ents A n j f p = Colons.ents C n j f p := by
  induction f generalizing p with
  | zero => unfold Colons.ents; rw [(h p).2.2.2.2.2.2.1]
  | succ f ih => unfold Colons.ents; rw [(h p).2.2.2.2.2.2.1, h.mark, h.sb, ih]

/-! ### the stack and the lines -/
def stackOf (P : List (Nat × List (Nat × Bool))) : List (Nat × Bool) := P.foldl (fun S L => pop S L.1 ++ L.2) []

theorem stackOf_snoc (P : List (Nat × List (Nat × Bool))) (L : Nat × List (Nat × Bool)) : stackOf (P ++ [L]) = pop (stackOf P) L.1 ++ L.2 := by
  unfold stackOf; rw [List.foldl_append]; rfl

/-- a line's entries: the first at the line's own column, each right of the one before -/
def Up : Nat → List (Nat × Bool) → Prop
  | _, [] => True
  | c, e :: r => c ≤ e.1 ∧ Up (e.1 + 1) r

def Good (L : Nat × List (Nat × Bool)) : Prop := ∃ q r, L.2 = (L.1, q) :: r ∧ Up (L.1 + 1) r

theorem Up.mono {c c' : Nat} {l : List (Nat × Bool)} (h : Up c l) (hc : c' ≤ c) : Up c' l := by
  cases l with
  | nil => trivial
  | cons e r => exact ⟨by have := h.1; omega, h.2⟩
theorem Up.all {c : Nat} {l : List (Nat × Bool)} (h : Up c l) : ∀ e ∈ l, c ≤ e.1 := by
  induction l generalizing c with
  | nil => intro e he; cases he
  | cons e r ih =>
    intro x hx
    cases hx with
    | head => exact h.1
    | tail _ hx => have := ih h.2 x hx; have := h.1; omega

theorem ents_up (X : Nat → Int) (n j f p : Nat) (hp : j ≤ p) : Up (p - j + 1) (ents X n j f p) := by
  induction f generalizing p with
  | zero => exact ⟨Nat.le_refl _, trivial⟩
  | succ f ih =>
    unfold ents
    refine ⟨Nat.le_refl _, ?_⟩
    split
    · have hg := sb_ge X (n - (p + 1)) (p + 1)
      exact (ih (sb X (n - (p + 1)) (p + 1)) (by omega)).mono (by simp; omega)
    · trivial
theorem ents_good (X : Nat → Int) (n j f p : Nat) (hp : j ≤ p) : Good (p - j + 1, ents X n j f p) := by
  cases f with
  | zero => exact ⟨_, _, rfl, trivial⟩
  | succ f =>
    have h := ents_up X n j (f + 1) p hp
    exact ⟨_, _, rfl, h.2⟩

theorem pop_nil (col : Nat) : pop [] col = [] := rfl
theorem pop_snoc (S : List (Nat × Bool)) (e : Nat × Bool) (col : Nat) : pop (S ++ [e]) col = if col < e.1 then pop S col else S ++ [e] := by
  unfold pop
  rw [List.reverse_append]
  simp only [List.reverse_cons, List.reverse_nil, List.nil_append, List.cons_append, List.dropWhile_cons]
  by_cases h : col < e.1 <;> simp [h]
/-- entries that all lie right of col are taken off -/
theorem pop_all (S E : List (Nat × Bool)) (col : Nat) (h : ∀ e ∈ E, col < e.1) : pop (S ++ E) col = pop S col := by
  induction E generalizing S with
  | nil => simp
  | cons e r ih =>
    have h1 := ih (S ++ [e]) (fun x hx => h x (List.mem_cons_of_mem _ hx))
    rw [List.append_assoc] at h1
    simp only [List.cons_append, List.nil_append] at h1
    rw [h1, pop_snoc, if_pos (h e (List.mem_cons_self))]
theorem pop_pop (S : List (Nat × Bool)) (c col : Nat) (h : col ≤ c) : pop (pop S c) col = pop S col := by
  unfold pop
  rw [List.reverse_reverse]
  generalize S.reverse = l
  congr 1
  induction l with
  | nil => rfl
  | cons e r ih =>
    simp only [List.dropWhile_cons]
    by_cases h1 : c < e.1
    · have h2 : col < e.1 := by omega
      simp [h1, h2, ih]
    · by_cases h2 : col < e.1 <;> simp [h1, h2]

/-- a line whose entries begin at or left of col: what the last one says of col -/
theorem last_good (S E : List (Nat × Bool)) (c col : Nat) (h : Up c E) (hE : ∀ e ∈ S.getLast?, e.1 < col ∨ e.1 = col ∧ c = col + 1) (hc : c ≤ col + 1) (hne : S ≠ []) :
    lastIs (pop (S ++ E) col) col = (lastIs S col || E.any fun e => e == (col, true)) := by
  induction E generalizing S c with
  | nil =>
    rw [List.append_nil]
    have hl := List.dropLast_concat_getLast hne
    have hg : S.getLast? = some (S.getLast hne) := List.getLast?_eq_some_getLast hne
    have he := hE (S.getLast hne) (by rw [hg]; rfl)
    rw [← hl, pop_snoc, if_neg (by omega)]
    simp
  | cons e r ih =>
    by_cases hlt : col < e.1
    · have hall : ∀ x ∈ e :: r, col < x.1 := by
        intro x hx
        cases hx with
        | head => exact hlt
        | tail _ hx => have := h.2.all x hx; omega
      rw [pop_all _ _ _ hall]
      have hl := List.dropLast_concat_getLast hne
      have hg : S.getLast? = some (S.getLast hne) := List.getLast?_eq_some_getLast hne
      have he := hE (S.getLast hne) (by rw [hg]; rfl)
      have hany : ((e :: r).any fun x => x == (col, true)) = false := by
        rw [List.any_eq_false]
        intro x hx
        have := hall x hx
        simp only [beq_iff_eq]
        intro e'
        rw [e'] at this
        simp at this
      rw [hany, Bool.or_false]
      conv => lhs; rw [← hl, pop_snoc, if_neg (by omega)]
      rw [hl]
    · have h1 := h.1
      have h3 := ih (S ++ [e]) (e.1 + 1) h.2 (by
        intro x hx
        rw [List.getLast?_append] at hx
        simp at hx
        subst hx
        by_cases e1 : e.1 = col
        · right; exact ⟨e1, by omega⟩
        · left; omega) (by omega) (by simp)
      rw [List.append_assoc] at h3
      simp only [List.cons_append, List.nil_append] at h3
      rw [h3]
      have hS : lastIs S col = false ∨ c = col + 1 := by
        by_cases hc1 : c = col + 1
        · right; exact hc1
        · left
          unfold lastIs
          have hg : S.getLast? = some (S.getLast hne) := List.getLast?_eq_some_getLast hne
          have he := hE (S.getLast hne) (by rw [hg]; rfl)
          rw [hg]
          simp only [beq_eq_false_iff_ne, ne_eq, Option.some.injEq]
          intro e'
          rw [e'] at he
          simp at he
          omega
      rcases hS with hS | hS
      · rw [hS, Bool.false_or]
        unfold lastIs
        rw [List.getLast?_append]
        simp
      · omega

theorem held_snoc (P : List (Nat × List (Nat × Bool))) (L : Nat × List (Nat × Bool)) (col : Nat) :
    held (P ++ [L]) col = if L.1 ≤ col then L.2.any fun e => e == (col, true) else held P col := by
  unfold held
  rw [List.reverse_append]
  simp only [List.reverse_cons, List.reverse_nil, List.nil_append, List.cons_append, List.find?_cons]
  by_cases h : L.1 ≤ col <;> simp [h]

theorem last_held (R : List (Nat × List (Nat × Bool))) (hR : ∀ L ∈ R, Good L) (col : Nat) : lastIs (pop (stackOf R.reverse) col) col = held R.reverse col := by
  induction R with
  | nil => rfl
  | cons L R ih =>
    rw [List.reverse_cons, stackOf_snoc, held_snoc]
    have hg := hR L List.mem_cons_self
    have ih' := ih (fun x hx => hR x (List.mem_cons_of_mem _ hx))
    obtain ⟨q, r, hL, hup⟩ := hg
    by_cases h : L.1 ≤ col
    · rw [if_pos h, hL]
      have := last_good (pop (stackOf R.reverse) L.1 ++ [(L.1, q)]) r (L.1 + 1) col hup (by
        intro x hx
        rw [List.getLast?_append] at hx
        simp at hx
        subst hx
        simp
        omega) (by omega) (by simp)
      rw [List.append_assoc] at this
      simp only [List.cons_append, List.nil_append] at this
      rw [this]
      unfold lastIs
      rw [List.getLast?_append]
      simp
    · rw [if_neg h, pop_all _ _ _ (by
        intro x hx
        rw [hL] at hx
        cases hx with
        | head => show col < L.1; omega
        | tail _ hx => have := hup.all x hx; omega), pop_pop _ _ _ (by omega), ih']

theorem held_eq (P : List (Nat × List (Nat × Bool))) (hP : ∀ L ∈ P, Good L) (col : Nat) : lastIs (pop (stackOf P) col) col = held P col := by
  have := last_held P.reverse (by simpa using hP) col
  simpa using this

/-! ### the two readers agree -/
theorem goC_end (A : Nat → Int) (n N f j : Nat) (S : List (Nat × Bool)) (out : List Nat) (h : N ≤ j) : goC A n N f j S out = out := by
  cases f with
  | zero => rfl
  | succ f => unfold goC; rw [if_neg (by omega)]
theorem goM_end (C : Nat → Int) (n f j : Nat) (P : List (Nat × List (Nat × Bool))) (out : List Nat) (h : n ≤ j) : goM C n f j P out = out := by
  cases f with
  | zero => rfl
  | succ f => unfold goM; rw [if_neg (by omega)]

theorem agree {A C : Nat → Int} {n N : Nat} (hal : Alike A C) (hN : N = n ∨ N = n + 1) (hend : skipc (A n) = false ∧ (A n == 58) = false ∧ brk (A n) = false)
    (f : Nat) : ∀ (g j : Nat) (P : List (Nat × List (Nat × Bool))) (out : List Nat), (∀ L ∈ P, Good L) → j ≤ n → N ≤ f + j → n ≤ g + j → goC A n N f j (stackOf P) out = goM C n g j P out := by
  induction f with
  | zero => intro g j P out _ _ h1 h2; rw [goM_end _ _ _ _ _ _ (by omega)]; rfl
  | succ f ih =>
    intro g j P out hP hj h1 h2
    by_cases hjn : j < n
    · have hjN : j < N := by omega
      obtain ⟨g, rfl⟩ : ∃ g', g = g' + 1 := ⟨g - 1, by omega⟩
      have hk1 := sb_ge A (n - j) j
      have hk2 := sb_le A (n - j) j
      have hsb := hal.sb (n - j) j
      have hm : goM C n (g + 1) j P out = if sb C (n - j) j < n ∧ skipc (C (sb C (n - j) j)) = false then
          goM C n g (nl C (n - j) j) (P ++ [(sb C (n - j) j - j + 1, ents C n j (n - sb C (n - j) j) (sb C (n - j) j))])
            (if C (sb C (n - j) j) == 58 && !held P (sb C (n - j) j - j + 1) then out ++ [sb C (n - j) j] else out)
          else goM C n g (nl C (n - j) j) P out := by
        conv => lhs; unfold goM
        rw [if_pos hjn]
      have hc : goC A n N (f + 1) j (stackOf P) out = if N ≤ sb A (n - j) j ∨ skipc (A (sb A (n - j) j)) = true then goC A n N f (nl A (N - j) j) (stackOf P) out
          else goC A n N f (nl A (N - j) j) (pop (stackOf P) (sb A (n - j) j - j + 1) ++ ents A n j (n - sb A (n - j) j) (sb A (n - j) j))
            (if A (sb A (n - j) j) == 58 && !lastIs (pop (stackOf P) (sb A (n - j) j - j + 1)) (sb A (n - j) j - j + 1) then out ++ [sb A (n - j) j] else out) := by
        conv => lhs; unfold goC
        rw [if_pos hjN]
      -- where the line ends
      have hnl : ∀ (S : List (Nat × Bool)) (P' : List (Nat × List (Nat × Bool))) (o : List Nat), S = stackOf P' → (∀ L ∈ P', Good L) → goC A n N f (nl A (N - j) j) S o = goM C n g (nl C (n - j) j) P' o := by
        intro S P' o hS hP'
        subst hS
        have hle := nl_le C (n - j) j
        have hgt : j < nl C (n - j) j := by
          have := nl_gt C (n - j - 1) j
          rwa [show n - j - 1 + 1 = n - j by omega] at this
        have hnlA := hal.nl (n - j) j
        rcases hN with hN | hN
        · subst hN
          rw [hnlA]
          exact ih g _ P' o hP' (by omega) (by omega) (by omega)
        · have hx := nl_more A (n - j) j (by rw [show j + (n - j) = n by omega]; exact hend.2.2)
          rw [show n - j + 1 = N - j by omega] at hx
          rcases hx with hx | ⟨hx1, hx2⟩
          · rw [hx, hnlA]
            exact ih g _ P' o hP' (by omega) (by omega) (by omega)
          · rw [goC_end _ _ _ _ _ _ _ (by omega), goM_end _ _ _ _ _ _ (by omega)]
      rw [hm, hc, ← hsb]
      by_cases hkn : sb A (n - j) j < n
      · have hnk : ¬ N ≤ sb A (n - j) j := by omega
        by_cases hsk : skipc (A (sb A (n - j) j)) = true
        · rw [if_pos (Or.inr hsk), if_neg (by rw [← hal.skipc, hsk]; simp)]
          exact hnl _ _ _ rfl hP
        · have hsk' : skipc (C (sb A (n - j) j)) = false := by rw [← hal.skipc]; simpa using hsk
          rw [if_neg (show ¬ (N ≤ sb A (n - j) j ∨ skipc (A (sb A (n - j) j)) = true) by simp [hnk, hsk]), if_pos (show sb A (n - j) j < n ∧ skipc (C (sb A (n - j) j)) = false from ⟨hkn, hsk'⟩), held_eq P hP, hal.ents, (hal _).2.2.2.2.2.2.2]
          refine hnl _ _ _ ?_ ?_
          · rw [stackOf_snoc]
          · intro L hL
            rw [List.mem_append] at hL
            rcases hL with hL | hL
            · exact hP L hL
            · simp only [List.mem_cons, List.not_mem_nil, or_false] at hL
              subst hL
              exact ents_good C n j _ _ hk1
      · have hkn' : sb A (n - j) j = n := by omega
        have hnb : ∀ t, j ≤ t → t < n → brk (A t) = false := fun t ht1 ht2 => blank_not_brk (sb_blank A (n - j) j t ht1 (by omega))
        have e1 : nl C (n - j) j = n := by rw [← hal.nl, nl_none A (n - j) j (fun t ht1 ht2 => hnb t ht1 (by omega))]; omega
        have e2 : nl A (N - j) j = N := by
          rw [nl_none A (N - j) j (fun t ht1 ht2 => by
            by_cases ht : t < n
            · exact hnb t ht1 ht
            · have : t = n := by omega
              rw [this]; exact hend.2.2)]
          omega
        rw [if_neg (show ¬ (sb A (n - j) j < n ∧ skipc (C (sb A (n - j) j)) = false) by simp [hkn]), e1, e2, goM_end _ _ _ _ _ _ (Nat.le_refl _), goC_end _ _ _ _ _ _ _ (Nat.le_refl _), goC_end _ _ _ _ _ _ _ (Nat.le_refl _), hkn', hend.2.1]
        simp
    · have hjn' : j = n := by omega
      subst hjn'
      rw [goM_end _ _ _ _ _ _ (Nat.le_refl _)]
      rcases hN with hN | hN
      · rw [goC_end _ _ _ _ _ _ _ (by omega)]
      · have e2 : nl A (N - j) j = N := by
          rw [nl_none A (N - j) j (fun t ht1 ht2 => by have : t = j := by omega
                                                       rw [this]; exact hend.2.2)]
          omega
        unfold goC
        rw [if_pos (by omega), Nat.sub_self]
        have es : sb A 0 j = j := rfl
        rw [es, e2, goC_end _ _ _ _ _ _ _ (Nat.le_refl _), goC_end _ _ _ _ _ _ _ (Nat.le_refl _), hend.2.1]
        simp

theorem agree0 {A C : Nat → Int} {n N : Nat} (hal : Alike A C) (hN : N = n ∨ N = n + 1) (hend : skipc (A n) = false ∧ (A n == 58) = false ∧ brk (A n) = false) (f g : Nat) (hf : N ≤ f) (hg : n ≤ g) :
    goC A n N f 0 [] [] = goM C n g 0 [] [] :=
  agree hal hN hend f g 0 [] [] (by intro L hL; cases hL) (Nat.zero_le _) (by omega) (by omega)

end Colons
