import Derived.Test.Qxb6603907aMemPop
/-
  ONE CLASS OF THE WORD BLOCKS: its words and its owners; what a step on it leaves alone.
-/
namespace Blocks
open Go Go.RowKit RowsKit

def D.poke (d : D) (i : Nat) (v : Int) : D := { d with f := fun j => if j = i then v else d.f j }

/-- one element is written -/
theorem Chd.poke {E SE : TypeId} {k : IntKind} {w : World} {base B off : Nat} {d : D} (h : Chd E SE k w base B off d) (hB : Box w B) (hE : E ≠ 51) (hSE : SE ≠ 51) (hES : E ≠ SE) (q1 r1 g1 : Nat) (v : Int)
    (hg1 : d.Gs[q1]? = some g1) (hfit : r1 < d.C) :
    Chd E SE k (w.setCell ⟨g1, r1, none⟩ (.int k v)) base B off (d.poke (q1 * d.C + r1) v) ∧ Step base B off d (d.poke (q1 * d.C + r1) v) w (w.setCell ⟨g1, r1, none⟩ (.int k v)) := by
  have hm1 : g1 ∈ d.Gs := List.mem_of_getElem? hg1
  have hBn := h.ck.off_box hB hE hSE
  have hB1 : B ≠ g1 := fun e => hBn (Or.inr (e ▸ hm1))
  obtain ⟨cur1, hcur, hsz, hx3⟩ := h.ck.cell q1 g1 hg1
  have hoth : ∀ x, x ≠ g1 → (w.setCell ⟨g1, r1, none⟩ (.int k v)).heap[x]? = w.heap[x]? := fun x hx => heap_setCell_other _ _ _ _ hx
  have hnew : (w.setCell ⟨g1, r1, none⟩ (.int k v)).heap[g1]? = some (.cells (cur1.setIfInBounds r1 (.int k v)) E (0, 0)) := by
    simp [World.setCell, Array.getElem?_modify, hcur]
  have ck2 : Ck E SE k (w.setCell ⟨g1, r1, none⟩ (.int k v)) base (d.poke (q1 * d.C + r1) v) := by
    refine ⟨⟨h.ck.row.1, ?_⟩, h.ck.nodup, h.ck.ge, ?_⟩
    · rcases h.ck.row.2 with e | ⟨g, cap, cur, e1, e2, e3, e4⟩
      · exact Or.inl e
      · refine Or.inr ⟨g, cap, cur, e1, e2, ?_, e4⟩
        rw [hoth g ?_]
        · exact e3
        · intro e
          refine h.ck.row_ne hES g1 hm1 ?_
          simp only [Value.slice.injEq] at e1
          rw [e1.1, ← e]; rfl
    · intro q g hq
      have hq' : d.Gs[q]? = some g := hq
      by_cases hgg : g = g1
      · subst hgg
        have hqq : q = q1 := by
          have h5 := (List.getElem?_eq_some_iff.1 hq').1
          exact (List.getElem?_inj h5 h.ck.nodup).1 (hq'.trans hg1.symm)
        subst hqq
        refine ⟨_, hnew, by rw [Array.size_setIfInBounds]; exact hsz, ?_⟩
        intro r hr
        have hr' : r < d.C := hr
        show _ = some (Value.int k (if q * d.C + r = q * d.C + r1 then v else d.f (q * d.C + r)))
        by_cases hin : r = r1
        · subst hin
          rw [if_pos rfl, Array.getElem?_setIfInBounds_self_of_lt (by omega)]
        · rw [if_neg (by omega), Array.getElem?_setIfInBounds_ne (by omega)]
          exact hx3 r hr'
      · obtain ⟨cur, c1, c2, c3⟩ := h.ck.cell q g hq'
        refine ⟨cur, (hoth g hgg).trans c1, c2, ?_⟩
        intro r hr
        have hr' : r < d.C := hr
        rw [c3 r hr']
        show _ = some (Value.int k (if q * d.C + r = q1 * d.C + r1 then v else d.f (q * d.C + r)))
        rw [if_neg]
        intro hin
        have : q = q1 := in_chunk (r1 := r1) (n := 1) hr' (by omega) (by omega)
        subst this
        rw [hq'] at hg1
        exact hgg (by simpa using hg1)
  refine ⟨⟨?_, ?_, ?_, ck2, h.hs, h.hL, h.hG⟩, ⟨?_, hB.kept (hoth B hB1), ?_, ?_, fun _ hx => Or.inl hx⟩⟩
  · rw [cell_heap (hoth B hB1)]; exact h.h0
  · rw [cell_heap (hoth B hB1)]; exact h.h1
  · rw [cell_heap (hoth B hB1)]; exact h.h2
  · exact below_set _ _ _ (h.ck.ge g1 hm1)
  · intro o _
    rw [cell_heap (hoth B hB1)]
  · intro x _ _ hb
    exact hoth x (fun e => hb (Or.inr (e ▸ hm1)))

/-- an array beside the one that is stepped on -/
theorem Chd.beside {E SE : TypeId} {k : IntKind} {w w' : World} {base B off off' : Nat} {d d' d2 : D} (h : Chd E SE k w base B off' d2) (hst : Step base B off d d' w w') (hB : Box w B) (hE : E ≠ 51) (hSE : SE ≠ 51)
    (hne : off' + 2 < off ∨ off + 2 < off') (hap : ∀ x, d2.bl x → ¬ d.bl x) : Chd E SE k w' base B off' d2 := by
  have hBn := h.ck.off_box hB hE hSE
  refine ⟨(hst.head _ (by omega)).trans h.h0, (hst.head _ (by omega)).trans h.h1, (hst.head _ (by omega)).trans h.h2, h.ck.kept ?_, h.hs, h.hL, h.hG⟩
  intro x hx
  exact hst.rest x (h.ck.lt hx) (fun e => hBn (e ▸ hx)) (hap x hx)

structure Cl (w : World) (base B c N : Nat) (a b : D) : Prop where
  box : Box w B
  hb : base ≤ B
  W : Chd 31 29 .u64 w base B (c * 6) a
  O : Chd 30 28 .u32 w base B (c * 6 + 3) b
  hc : c ≤ a.s
  aL : a.L = N * 2 ^ c
  bL : b.L = N

structure CStep (base B c : Nat) (a b a' b' : D) (w w' : World) : Prop where
  below : Below base w w'
  box : Box w' B
  head : ∀ o, (o < c * 6 ∨ c * 6 + 5 < o) → w'.cell? ⟨B, o, none⟩ = w.cell? ⟨B, o, none⟩
  rest : ∀ x, x < w.heap.size → x ≠ B → ¬ a.bl x → ¬ b.bl x → w'.heap[x]? = w.heap[x]?
  new : ∀ x, (a'.bl x ∨ b'.bl x) → (a.bl x ∨ b.bl x) ∨ w.heap.size ≤ x

theorem CStep.trans {base B c : Nat} {a b a' b' a2 b2 : D} {w w' w2 : World} (h : CStep base B c a b a' b' w w') (k : CStep base B c a' b' a2 b2 w' w2) : CStep base B c a b a2 b2 w w2 := by
  refine ⟨h.below.trans k.below, k.box, fun o ho => (k.head o ho).trans (h.head o ho), ?_, ?_⟩
  · intro x hx hB hn1 hn2
    have hno : ¬ (a'.bl x ∨ b'.bl x) := by
      intro hb
      rcases h.new x hb with (h1 | h1) | h1
      · exact hn1 h1
      · exact hn2 h1
      · omega
    exact (k.rest x (Nat.lt_of_lt_of_le hx h.below.size) hB (fun e => hno (Or.inl e)) (fun e => hno (Or.inr e))).trans (h.rest x hx hB hn1 hn2)
  · intro x hx
    rcases k.new x hx with h1 | h1
    · exact h.new x h1
    · exact Or.inr (Nat.le_trans h.below.size h1)
theorem CStep.draws {base B c : Nat} {a b : D} {w : World} (hB : Box w B) (n : Nat) : CStep base B c a b a b w (w.drewN n) :=
  ⟨below_draws w n, hB.kept rfl, fun _ _ => rfl, fun _ _ _ _ _ => rfl, fun _ h => Or.inl h⟩
theorem CStep.refl {base B c : Nat} {a b : D} {w : World} (hB : Box w B) : CStep base B c a b a b w w :=
  ⟨Below.refl _ _, hB, fun _ _ => rfl, fun _ _ _ _ _ => rfl, fun _ h => Or.inl h⟩
theorem Cl.same {w w' : World} {base B c N : Nat} {a b : D} (h : Cl w base B c N a b) (hh : w'.heap = w.heap) : Cl w' base B c N a b :=
  ⟨h.box.kept (by rw [hh]), h.hb, h.W.same hh, h.O.same hh, h.hc, h.aL, h.bL⟩

/-- words and owners share no block -/
theorem Cl.apart {w : World} {base B c N : Nat} {a b : D} (h : Cl w base B c N a b) {x : Nat} (hx : a.bl x) : ¬ b.bl x := h.W.ck.apart h.O.ck (by decide) (by decide) (by decide) (by decide) hx

/-- a step on the words -/
theorem Cl.stepW {w w' : World} {base B c N : Nat} {a b a' : D} (h : Cl w base B c N a b) (hst : Step base B (c * 6) a a' w w') : Chd 30 28 .u32 w' base B (c * 6 + 3) b ∧ CStep base B c a b a' b w w' := by
  refine ⟨h.O.beside hst h.box (by decide) (by decide) (by omega) (fun x hx hx' => h.apart hx' hx), ⟨hst.below, hst.box, fun o ho => hst.head o (by omega), fun x h1 h2 h3 _ => hst.rest x h1 h2 h3, ?_⟩⟩
  intro x hx
  rcases hx with hx | hx
  · rcases hst.new x hx with h1 | h1
    · exact Or.inl (Or.inl h1)
    · exact Or.inr h1
  · exact Or.inl (Or.inr hx)
/-- a step on the owners -/
theorem Cl.stepO {w w' : World} {base B c N : Nat} {a b b' : D} (h : Cl w base B c N a b) (hst : Step base B (c * 6 + 3) b b' w w') : Chd 31 29 .u64 w' base B (c * 6) a ∧ CStep base B c a b a b' w w' := by
  refine ⟨h.W.beside hst h.box (by decide) (by decide) (by omega) (fun x hx hx' => h.apart hx hx'), ⟨hst.below, hst.box, fun o ho => hst.head o (by omega), fun x h1 h2 _ h4 => hst.rest x h1 h2 h4, ?_⟩⟩
  intro x hx
  rcases hx with hx | hx
  · exact Or.inl (Or.inl hx)
  · rcases hst.new x hx with h1 | h1
    · exact Or.inl (Or.inr h1)
    · exact Or.inr h1

/-- the class hangs on its own blocks and its own part of the box -/
theorem Cl.kept {w w' : World} {base B c N : Nat} {a b : D} (h : Cl w base B c N a b) (hbox : Box w' B) (hd : ∀ o, c * 6 ≤ o → o ≤ c * 6 + 5 → w'.cell? ⟨B, o, none⟩ = w.cell? ⟨B, o, none⟩) (hk : ∀ x, (a.bl x ∨ b.bl x) → w'.heap[x]? = w.heap[x]?) : Cl w' base B c N a b := by
  refine ⟨hbox, h.hb, ⟨?_, ?_, ?_, h.W.ck.kept (fun x hx => hk x (Or.inl hx)), h.W.hs, h.W.hL, h.W.hG⟩, ⟨?_, ?_, ?_, h.O.ck.kept (fun x hx => hk x (Or.inr hx)), h.O.hs, h.O.hL, h.O.hG⟩, h.hc, h.aL, h.bL⟩
  · rw [hd _ (by omega) (by omega)]; exact h.W.h0
  · rw [hd _ (by omega) (by omega)]; exact h.W.h1
  · rw [hd _ (by omega) (by omega)]; exact h.W.h2
  · rw [hd _ (by omega) (by omega)]; exact h.O.h0
  · rw [hd _ (by omega) (by omega)]; exact h.O.h1
  · rw [hd _ (by omega) (by omega)]; exact h.O.h2
theorem Cl.lt {w : World} {base B c N : Nat} {a b : D} (h : Cl w base B c N a b) {x : Nat} (hx : a.bl x ∨ b.bl x) : x < w.heap.size := by
  rcases hx with hx | hx
  · exact h.W.ck.lt hx
  · exact h.O.ck.lt hx
theorem Cl.ge {w : World} {base B c N : Nat} {a b : D} (h : Cl w base B c N a b) {x : Nat} (hx : a.bl x ∨ b.bl x) : base ≤ x := by
  rcases hx with hx | hx
  · exact (h.W.ck.kinds hx).1
  · exact (h.O.ck.kinds hx).1
theorem Cl.off_box {w : World} {base B c N : Nat} {a b : D} (h : Cl w base B c N a b) {x : Nat} (hx : a.bl x ∨ b.bl x) : x ≠ B := by
  rintro rfl
  rcases hx with hx | hx
  · exact h.W.ck.off_box h.box (by decide) (by decide) hx
  · exact h.O.ck.off_box h.box (by decide) (by decide) hx
/-- where all but one block off the class is kept, the class is kept -/
theorem Cl.keepGrown {w w' : World} {base B c N : Nat} {a b : D} (h : Cl w base B c N a b) (row : Option Nat) (hk : ∀ x, x < w.heap.size → row ≠ some x → w'.heap[x]? = w.heap[x]?) (hB : row ≠ some B) (hn : ∀ x, row = some x → ¬ (a.bl x ∨ b.bl x)) : Cl w' base B c N a b := by
  have hBk := hk B h.box.lt hB
  exact h.kept (h.box.kept hBk) (fun o _ _ => cell_heap hBk o) (fun x hx => hk x (h.lt hx) (fun e => hn x e hx))
end Blocks
