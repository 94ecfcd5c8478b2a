import Derived.Test.Qxb6603907aMemPop
/-
  THE ARITHMETIC OF RUNS THAT LIE IN ONE CHUNK.
-/
namespace Blocks

theorem rem_fits {n C i : Nat} (hC : 0 < C) (h1 : n ∣ C) (h2 : n ∣ i) : i % C + n ≤ C := by
  have hlt := Nat.mod_lt i hC
  have hd : n ∣ i % C := (Nat.dvd_mod_iff h1).2 h2
  obtain ⟨c, hc⟩ := h1
  obtain ⟨l, hl⟩ := hd
  rw [hl, hc] at hlt ⊢
  have h3 : l < c := Nat.lt_of_mul_lt_mul_left hlt
  have h4 : n * (l + 1) ≤ n * c := Nat.mul_le_mul_left n h3
  rw [Nat.mul_add, Nat.mul_one] at h4
  exact h4
theorem quo_lt {i n L m C : Nat} (hn : 0 < n) (hi : i + n ≤ L) (hL : L ≤ m * C) : i / C < m := by
  have hC : 0 < C := by
    rcases Nat.eq_zero_or_pos C with h | h
    · subst h; omega
    · exact h
  exact (Nat.div_lt_iff_lt_mul hC).2 (by omega)
theorem div_mod' (i C : Nat) : i / C * C + i % C = i := Nat.div_add_mod' i C
theorem whole {i C : Nat} (h : C ∣ i) : i / C * C = i := Nat.div_mul_cancel h
theorem whole_mod {i C : Nat} (h : C ∣ i) : i % C = 0 := Nat.mod_eq_zero_of_dvd h

/-- what the move leaves: the elements from 'i' on are the last ones -/
def Moved (d d1 : D) (i n : Nat) : Prop := d1.s = d.s ∧ d1.L = d.L ∧ d1.Gs.length = d.Gs.length ∧ ∀ j, j < d.L - n → d1.f j = if i ≤ j ∧ j < i + n then d.f (d.L - n + (j - i)) else d.f j

theorem moved_none {d : D} {i n : Nat} (h : i = d.L - n) : Moved d d i n := by
  refine ⟨rfl, rfl, rfl, fun j hj => ?_⟩
  rw [if_neg (by omega)]
theorem moved_copy (d : D) (i n : Nat) : Moved d (d.moved i n (d.L - n)) i n := ⟨rfl, rfl, rfl, fun _ _ => rfl⟩
theorem moved_swap {d : D} {i n q1 q2 g1 g2 : Nat} (hC : n = d.C) (hn : 0 < n) (h1 : q1 * d.C = i) (h2 : q2 * d.C = d.L - n) : Moved d (d.swap q1 q2 g1 g2) i n := by
  refine ⟨rfl, rfl, by simp [D.swap], fun j hj => ?_⟩
  show (if j / d.C = q1 then d.f (q2 * d.C + j % d.C) else if j / d.C = q2 then d.f (q1 * d.C + j % d.C) else d.f j) = _
  have hdm := div_mod' j d.C
  have hml := Nat.mod_lt j (by omega : 0 < d.C)
  by_cases e1 : j / d.C = q1
  · rw [e1, h1] at hdm
    rw [if_pos e1, if_pos (by omega), h2]
    congr 1
    omega
  · rw [if_neg e1, if_neg, if_neg]
    · rintro ⟨h3, h4⟩
      apply e1
      subst h1
      exact Nat.div_eq_of_lt_le h3 (by rw [Nat.add_mul]; omega)
    · intro e2
      rw [e2, h2] at hdm
      omega
end Blocks
