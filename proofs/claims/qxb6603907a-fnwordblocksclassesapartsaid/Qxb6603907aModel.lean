import Derived.Test.Qxb6603907aFill
import Derived.Test.Qxb6603907aPut
/-
  THE LAW'S OWN SLICES BESIDE THE CLASS, AND THE FLAT MODEL.
-/
namespace Go.Proofs.Qxb6603907a
open Go.RowKit RowsKit Blocks

/-- the model: who owns each block, and with what it was filled -/
def Mod (c N : Nat) (a b : D) (os fs : Nat → Int) : Prop := ∀ i, i < N → b.f i = os i ∧ BH a c i (fs i)
def upd (f : Nat → Int) (j : Nat) (v : Int) : Nat → Int := fun i => if i = j then v else f i

theorem upd_same (f : Nat → Int) (j : Nat) (v : Int) : upd f j v j = v := if_pos rfl
theorem upd_ne (f : Nat → Int) {i j : Nat} (v : Int) (h : i ≠ j) : upd f j v i = f i := if_neg h

theorem blk_lt {i N n j : Nat} (hi : i < N) (hj : j < n) : i * n + j < N * n := by
  have h1 : (i + 1) * n ≤ N * n := Nat.mul_le_mul_right _ hi
  rw [Nat.add_mul, Nat.one_mul] at h1
  omega
theorem blk_out {i k n j : Nat} (hne : i ≠ k) (hj : j < n) : ¬ (k * n ≤ i * n + j ∧ i * n + j < k * n + n) := by
  rintro ⟨h1, h2⟩
  rcases Nat.lt_or_gt_of_ne hne with h | h
  · have h3 : (i + 1) * n ≤ k * n := Nat.mul_le_mul_right _ h
    rw [Nat.add_mul, Nat.one_mul] at h3
    omega
  · have h3 : (k + 1) * n ≤ i * n := Nat.mul_le_mul_right _ h
    rw [Nat.add_mul, Nat.one_mul] at h3
    omega

theorem Mod.get {c N : Nat} {a b a' b' a2 : D} {os fs : Nat → Int} (h : Mod c N a b os fs) (ow x : Int) (h1 : ∀ i, i < N * 2 ^ c → a'.f i = a.f i) (h2 : ∀ i, i < N → b'.f i = b.f i) (h3 : b'.f N = ow) (h4 : BH a2 c N x) (h5 : FillE a' a2 c N) : Mod c (N + 1) a2 b' (upd os N ow) (upd fs N x) := by
  intro i hi
  by_cases e : i = N
  · subst e
    rw [upd_same, upd_same]
    exact ⟨h3, h4⟩
  · have hlt : i < N := by omega
    rw [upd_ne _ _ e, upd_ne _ _ e]
    refine ⟨(h2 i hlt).trans (h i hlt).1, ?_⟩
    intro j hj
    rw [h5 _ (blk_out e hj), h1 _ (blk_lt hlt hj)]
    exact (h i hlt).2 j hj

theorem Mod.put {c l b0 : Nat} {a b a' b' : D} {os fs : Nat → Int} (h : Mod c (l + 1) a b os fs) (h1 : PutW a a' c l b0) (h2 : PutO b b' l b0) : Mod c l a' b' (upd os b0 (os l)) (upd fs b0 (fs l)) := by
  intro i hi
  have hp : 0 < 2 ^ c := Nat.pow_pos (by decide)
  by_cases e : i = b0
  · subst e
    rw [upd_same, upd_same]
    refine ⟨?_, ?_⟩
    · rw [h2 i hi, if_pos rfl]
      exact (h l (Nat.lt_succ_self l)).1
    · intro j hj
      rw [h1 _ (blk_lt hi hj), if_pos ⟨Nat.le_add_right _ _, Nat.add_lt_add_left hj _⟩, Nat.add_sub_cancel_left]
      exact (h l (Nat.lt_succ_self l)).2 j hj
  · rw [upd_ne _ _ e, upd_ne _ _ e]
    refine ⟨?_, ?_⟩
    · rw [h2 i hi, if_neg e]
      exact (h i (by omega)).1
    · intro j hj
      rw [h1 _ (blk_lt hi hj), if_neg (blk_out e hj)]
      exact (h i (by omega)).2 j hj
theorem Mod.gone {c l b0 : Nat} {a b : D} {os fs : Nat → Int} (h : Mod c (l + 1) a b os fs) : gone b l b0 = if b0 = l then 0 else os l := by
  unfold Qxb6603907a.gone
  rw [(h l (Nat.lt_succ_self l)).1]

/-! ### rows of numbers -/
theorem segs_ext {k : IntKind} {f f' : Nat → Int} {x n : Nat} (h : ∀ j, j < n → f (x + j) = f' (x + j)) : segs k f x n = segs k f' x n := by
  apply List.ext_getElem?
  intro j
  by_cases hj : j < n
  · rw [segs_at _ _ _ _ _ hj, segs_at _ _ _ _ _ hj, h j hj]
  · rw [List.getElem?_eq_none (by rw [segs_len]; omega), List.getElem?_eq_none (by rw [segs_len]; omega)]
theorem segs_take (k : IntKind) (f : Nat → Int) {m n : Nat} (h : m ≤ n) : (segs k f 0 n).take m = segs k f 0 m := by
  apply List.ext_getElem?
  intro j
  by_cases hj : j < m
  · rw [List.getElem?_take_of_lt hj, segs_at _ _ _ _ _ (by omega), segs_at _ _ _ _ _ hj]
  · rw [List.getElem?_eq_none (by rw [List.length_take, segs_len]; omega), List.getElem?_eq_none (by rw [segs_len]; omega)]
theorem segs_set (k : IntKind) (f : Nat → Int) (n j : Nat) (v : Int) : (segs k f 0 n).set j (.int k v) = segs k (upd f j v) 0 n := by
  apply List.ext_getElem?
  intro i
  by_cases hi : i < n
  · rw [segs_at _ _ _ _ _ hi, Nat.zero_add]
    by_cases e : i = j
    · subst e
      rw [List.getElem?_set_self (by rw [segs_len]; exact hi), upd_same]
    · rw [List.getElem?_set_ne (by omega), segs_at _ _ _ _ _ hi, upd_ne _ _ e, Nat.zero_add]
  · rw [List.getElem?_eq_none (by rw [List.length_set, segs_len]; omega), List.getElem?_eq_none (by rw [segs_len]; omega)]
theorem segs_push (k : IntKind) (f : Nat → Int) (n : Nat) (v : Int) : segs k f 0 n ++ [.int k v] = segs k (upd f n v) 0 (n + 1) := by
  apply List.ext_getElem?
  intro i
  by_cases hi : i < n
  · rw [List.getElem?_append_left (by rw [segs_len]; exact hi), segs_at _ _ _ _ _ hi, segs_at _ _ _ _ _ (by omega), Nat.zero_add, upd_ne _ _ (by omega)]
  · by_cases e : i = n
    · subst e
      rw [List.getElem?_append_right (by rw [segs_len]; omega), segs_len, Nat.sub_self, segs_at _ _ _ _ _ (by omega), Nat.zero_add, upd_same]
      rfl
    · rw [List.getElem?_eq_none (by rw [List.length_append, segs_len]; simp; omega), List.getElem?_eq_none (by rw [segs_len]; omega)]

/-! ### a row beside the class -/
def Off (ao : Option Addr) (a b : D) : Prop := ∀ x, ao.map (·.block) = some x → ¬ (a.bl x ∨ b.bl x)

theorem own_keep {w w' : World} {base : Nat} {r : Row} (h : Row.owned w base r) (hk : ∀ x, r.ao.map (·.block) = some x → w'.heap[x]? = w.heap[x]?) : Row.owned w' base r := by
  refine ⟨h.1, ?_⟩
  rcases h.2 with h1 | ⟨g, cap, cur, h1, h2, h3, h4⟩
  · exact Or.inl h1
  · refine Or.inr ⟨g, cap, cur, h1, h2, ?_, h4⟩
    rw [hk g (by simp only [Value.slice.injEq] at h1; rw [h1.1]; rfl)]
    exact h3
theorem own_blk {w : World} {base : Nat} {r : Row} (h : Row.owned w base r) {x : Nat} (hx : r.ao.map (·.block) = some x) : base ≤ x ∧ x < w.heap.size ∧ ∃ cur, w.heap[x]? = some (.cells cur r.e (0, 0)) := by
  rcases h.2 with ⟨h1, _⟩ | ⟨g, cap, cur, h1, h2, h3, h4⟩
  · simp only [Value.slice.injEq] at h1
    rw [h1.1] at hx
    cases hx
  · simp only [Value.slice.injEq] at h1
    rw [h1.1] at hx
    simp only [Option.map_some, Option.some.injEq] at hx
    subst hx
    exact ⟨h2, (Array.getElem?_eq_some_iff.1 h3).1, cur, h3⟩
theorem own_ne {w : World} {base : Nat} {r r' : Row} (h : Row.owned w base r) (h' : Row.owned w base r') (he : r.e ≠ r'.e) {x : Nat} (hx : r.ao.map (·.block) = some x) : r'.ao.map (·.block) ≠ some x := by
  intro hx'
  obtain ⟨_, _, cur, h1⟩ := own_blk h hx
  obtain ⟨_, _, cur', h2⟩ := own_blk h' hx'
  rw [h1] at h2
  simp only [Option.some.injEq, Obj.cells.injEq] at h2
  exact he h2.2.1
theorem own_box {w : World} {base B : Nat} {r : Row} (h : Row.owned w base r) (hB : Box w B) (he : r.e ≠ 51) : r.ao.map (·.block) ≠ some B := by
  intro hx
  obtain ⟨_, _, cur, h1⟩ := own_blk h hx
  obtain ⟨cs, h3, _⟩ := hB
  rw [h3] at h1
  simp only [Option.some.injEq, Obj.cells.injEq] at h1
  exact he h1.2.1.symm
theorem own_step {w w' : World} {base B c : Nat} {r : Row} {a b a' b' : D} (h : Row.owned w base r) (hB : Box w B) (he : r.e ≠ 51) (ho : Off r.ao a b) (hst : CStep base B c a b a' b' w w') : Row.owned w' base r := by
  refine own_keep h fun x hx => hst.rest x (own_blk h hx).2.1 ?_ (fun e => ho x hx (Or.inl e)) (fun e => ho x hx (Or.inr e))
  rintro rfl
  exact own_box h hB he hx
theorem Off.step {w w' : World} {base B c : Nat} {r : Row} {a b a' b' : D} (ho : Off r.ao a b) (h : Row.owned w base r) (hst : CStep base B c a b a' b' w w') : Off r.ao a' b' := by
  intro x hx hb
  rcases hst.new x hb with h1 | h1
  · exact ho x hx h1
  · have := (own_blk h hx).2.1
    omega
theorem own_at {w : World} {base e g n cap : Nat} {k : IntKind} {f : Nat → Int} (h : Row.owned w base ⟨e, 1, some ⟨g, 0, none⟩, n, cap, segs k f 0 n⟩) {j : Nat} (hj : j < n) : w.cell? ⟨g, j, none⟩ = some (.int k (f j)) := by
  rw [owned_cell h j (by omega), segs_at _ _ _ _ _ hj, Nat.zero_add]
theorem own_set {w : World} {base e g n cap : Nat} {k : IntKind} {f : Nat → Int} (h : Row.owned w base ⟨e, 1, some ⟨g, 0, none⟩, n, cap, segs k f 0 n⟩) (j : Nat) (v : Int) : Row.owned (w.setCell ⟨g, j, none⟩ (.int k v)) base ⟨e, 1, some ⟨g, 0, none⟩, n, cap, segs k (upd f j v) 0 n⟩ := by
  have h1 := (World.ownsRow.stored h j (.int k v)).1
  rw [segs_set] at h1
  exact h1
theorem own_take {w : World} {base e m n cap : Nat} {ao : Option Addr} {k : IntKind} {f : Nat → Int} (h : Row.owned w base ⟨e, 1, ao, n, cap, segs k f 0 n⟩) (hm : m ≤ n) : Row.owned w base ⟨e, 1, ao, m, cap, segs k f 0 m⟩ := by
  have h1 := owned_cut h hm
  rw [segs_take _ _ hm] at h1
  exact h1
theorem own_set_other {w : World} {base g j : Nat} {v : Value} {r : Row} (h : Row.owned w base r) (hne : r.ao.map (·.block) ≠ some g) : Row.owned (w.setCell ⟨g, j, none⟩ v) base r :=
  own_keep h fun x hx => heap_setCell_other _ _ _ _ (fun e => hne (by rw [← show x = g from e]; exact hx))
theorem Cl.poked {w : World} {base B c N : Nat} {a b : D} (h : Cl w base B c N a b) (g j : Nat) (v : Value) (hB : g ≠ B) (hn : ¬ (a.bl g ∨ b.bl g)) : Cl (w.setCell ⟨g, j, none⟩ v) base B c N a b :=
  h.keepGrown (some g) (fun x _ hx => heap_setCell_other _ _ _ _ (fun e => hx (by rw [show x = g from e]))) (fun e => hB (by simpa using e)) (fun x hx => by simp only [Option.some.injEq] at hx; rw [← hx]; exact hn)

/-- another class is left alone -/
theorem Cl.beside {w w' : World} {base B c c2 N2 : Nat} {a b a' b' a2 b2 : D} (h : Cl w base B c2 N2 a2 b2) (hst : CStep base B c a b a' b' w w') (hne : c ≠ c2) (hap : ∀ x, (a2.bl x ∨ b2.bl x) → ¬ (a.bl x ∨ b.bl x)) : Cl w' base B c2 N2 a2 b2 :=
  h.kept hst.box (fun o h1 h2 => hst.head o (by omega)) (fun x hx => hst.rest x (h.lt hx) (h.off_box hx) (fun e => hap x hx (Or.inl e)) (fun e => hap x hx (Or.inr e)))
theorem Cl.beside_apart {w w' : World} {base B c c2 N2 : Nat} {a b a' b' a2 b2 : D} (h : Cl w base B c2 N2 a2 b2) (hst : CStep base B c a b a' b' w w') (hap : ∀ x, (a2.bl x ∨ b2.bl x) → ¬ (a.bl x ∨ b.bl x)) : ∀ x, (a2.bl x ∨ b2.bl x) → ¬ (a'.bl x ∨ b'.bl x) := by
  intro x hx hx'
  rcases hst.new x hx' with h1 | h1
  · exact hap x hx h1
  · have := h.lt hx
    omega
end Go.Proofs.Qxb6603907a
