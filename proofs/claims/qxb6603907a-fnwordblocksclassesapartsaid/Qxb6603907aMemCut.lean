import Derived.Test.Qxb6603907aMemGrow
namespace Blocks
open Go Go.RowKit RowsKit

/-- the row of chunks lies in no chunk -/
theorem Ck.row_ne {E SE : TypeId} {k : IntKind} {w : World} {base : Nat} {d : D} (h : Ck E SE k w base d) (hES : E ≠ SE) : ∀ g ∈ d.Gs, d.ao.map (·.block) ≠ some g := by
  intro g hgm e
  obtain ⟨q, hq⟩ := List.mem_iff_getElem?.1 hgm
  obtain ⟨cur, h1, _⟩ := h.cell q g hq
  rcases h.row.2 with ⟨e1, _⟩ | ⟨g', cap, cur', e1, _, e3, _⟩
  · simp only [Value.slice.injEq] at e1
    rw [e1.1] at e; cases e
  · simp only [Value.slice.injEq] at e1
    rw [e1.1] at e
    simp only [Option.map_some, Option.some.injEq] at e
    subst e
    rw [h1] at e3
    simp only [Option.some.injEq, Obj.cells.injEq] at e3
    exact hES e3.2.1

/-- 'n' elements from 'last' on are copied to 'i' -/
def D.moved (d : D) (i n last : Nat) : D := { d with f := fun j => if i ≤ j ∧ j < i + n then d.f (last + (j - i)) else d.f j }

/-- the cells of 'n' elements from 'x' on -/
def segs (k : IntKind) (f : Nat → Int) (x n : Nat) : List Value := (List.range n).map fun t => .int k (f (x + t))
theorem segs_len (k : IntKind) (f : Nat → Int) (x n : Nat) : (segs k f x n).length = n := by simp [segs]
theorem segs_at (k : IntKind) (f : Nat → Int) (x n t : Nat) (h : t < n) : (segs k f x n)[t]? = some (.int k (f (x + t))) := by simp [segs, h]

theorem seg_list (cur : List Value) (cs : List Value) (o r : Nat) (hfit : o + cs.length ≤ cur.length) : (cur.take o ++ cs ++ cur.drop (o + cs.length))[r]? = if o ≤ r ∧ r < o + cs.length then cs[r - o]? else cur[r]? := by
  by_cases h1 : r < o
  · rw [List.append_assoc, List.getElem?_append_left (by simp; omega), List.getElem?_take_of_lt h1, if_neg (by omega)]
  · by_cases h2 : r < o + cs.length
    · rw [List.getElem?_append_left (by simp; omega), List.getElem?_append_right (by simp; omega), if_pos (by omega)]
      congr 1
      simp; omega
    · rw [List.getElem?_append_right (by simp; omega), List.getElem?_drop, if_neg (by omega)]
      congr 1
      simp; omega

theorem in_chunk {q C r q1 r1 n : Nat} (hr : r < C) (hn : r1 + n ≤ C) (h : q1 * C + r1 ≤ q * C + r ∧ q * C + r < q1 * C + r1 + n) : q = q1 := by
  rcases Nat.lt_trichotomy q q1 with h1 | h1 | h1
  · have h5 : (q + 1) * C ≤ q1 * C := Nat.mul_le_mul_right _ h1
    rw [Nat.add_mul] at h5; omega
  · exact h1
  · have h5 : (q1 + 1) * C ≤ q * C := Nat.mul_le_mul_right _ h1
    rw [Nat.add_mul] at h5; omega

theorem Chd.move {E SE : TypeId} {k : IntKind} {w : World} {base B off : Nat} {d : D} (h : Chd E SE k w base B off d) (hB : Box w B) (hE : E ≠ 51) (hSE : SE ≠ 51) (hES : E ≠ SE) (q1 r1 n last g1 : Nat) (cur1 : Array Value)
    (hg1 : d.Gs[q1]? = some g1) (hcur : w.heap[g1]? = some (.cells cur1 E (0, 0))) (hsz : cur1.size = d.C) (hfit : r1 + n ≤ d.C) :
    Chd E SE k (w.setRow g1 (cur1.toList.take r1 ++ segs k d.f last n ++ cur1.toList.drop (r1 + (segs k d.f last n).length)).toArray) base B off (d.moved (q1 * d.C + r1) n last) ∧
    Step base B off d (d.moved (q1 * d.C + r1) n last) w (w.setRow g1 (cur1.toList.take r1 ++ segs k d.f last n ++ cur1.toList.drop (r1 + (segs k d.f last n).length)).toArray) := by
  obtain ⟨X, hX⟩ : ∃ X, X = (cur1.toList.take r1 ++ segs k d.f last n ++ cur1.toList.drop (r1 + (segs k d.f last n).length)).toArray := ⟨_, rfl⟩
  rw [← hX]
  have hm1 : g1 ∈ d.Gs := List.mem_of_getElem? hg1
  have hBn := h.ck.off_box hB hE hSE
  have hB1 : B ≠ g1 := fun e => hBn (Or.inr (e ▸ hm1))
  have hoth : ∀ x, x ≠ g1 → (w.setRow g1 X).heap[x]? = w.heap[x]? := fun x hx => setRow_other w g1 x X hx
  have hnew : (w.setRow g1 X).heap[g1]? = some (.cells X E (0, 0)) := setRow_heap w g1 _ X E _ hcur
  have hXs : X.size = d.C := by
    rw [hX, List.size_toArray]
    simp only [List.length_append, List.length_take, List.length_drop, Array.length_toList, segs_len]
    omega
  have hXat : ∀ r, X[r]? = if r1 ≤ r ∧ r < r1 + n then (segs k d.f last n)[r - r1]? else cur1[r]? := by
    intro r
    rw [hX, List.getElem?_toArray, seg_list _ _ _ _ (by rw [segs_len, Array.length_toList]; omega), segs_len]
    simp only [Array.getElem?_toList]
  obtain ⟨curx, hx1, hx2, hx3⟩ := h.ck.cell q1 g1 hg1
  have hcx : curx = cur1 := by
    rw [hcur] at hx1
    simp only [Option.some.injEq, Obj.cells.injEq] at hx1
    exact hx1.1.symm
  subst hcx
  have ck2 : Ck E SE k (w.setRow g1 X) base (d.moved (q1 * d.C + r1) n last) := by
    refine ⟨⟨h.ck.row.1, ?_⟩, h.ck.nodup, h.ck.ge, ?_⟩
    · rcases h.ck.row.2 with e | ⟨g, cap, cur, e1, e2, e3, e4⟩
      · exact Or.inl e
      · refine Or.inr ⟨g, cap, cur, e1, e2, ?_, e4⟩
        rw [hoth g ?_]
        · exact e3
        · intro e
          refine h.ck.row_ne hES g1 hm1 ?_
          simp only [Value.slice.injEq] at e1
          rw [e1.1, ← e]; rfl
    · intro q g hq
      have hq' : d.Gs[q]? = some g := hq
      by_cases hgg : g = g1
      · subst hgg
        have hqq : q = q1 := by
          have h5 := (List.getElem?_eq_some_iff.1 hq').1
          exact (List.getElem?_inj h5 h.ck.nodup).1 (hq'.trans hg1.symm)
        subst hqq
        refine ⟨X, hnew, hXs, ?_⟩
        intro r hr
        have hr' : r < d.C := hr
        rw [hXat r]
        show _ = some (Value.int k (if q * d.C + r1 ≤ q * d.C + r ∧ q * d.C + r < q * d.C + r1 + n then d.f (last + (q * d.C + r - (q * d.C + r1))) else d.f (q * d.C + r)))
        by_cases hin : r1 ≤ r ∧ r < r1 + n
        · rw [if_pos hin, if_pos (by omega), segs_at _ _ _ _ _ (by omega), show q * d.C + r - (q * d.C + r1) = r - r1 from by omega]
        · rw [if_neg hin, if_neg (by omega)]
          exact hx3 r hr'
      · obtain ⟨cur, c1, c2, c3⟩ := h.ck.cell q g hq'
        refine ⟨cur, (hoth g hgg).trans c1, c2, ?_⟩
        intro r hr
        have hr' : r < d.C := hr
        rw [c3 r hr']
        show _ = some (Value.int k (if q1 * d.C + r1 ≤ q * d.C + r ∧ q * d.C + r < q1 * d.C + r1 + n then _ else d.f (q * d.C + r)))
        rw [if_neg]
        intro hin
        have := in_chunk hr' hfit hin
        subst this
        rw [hq'] at hg1
        exact hgg (by simpa using hg1)
  refine ⟨⟨?_, ?_, ?_, ck2, h.hs, h.hL, h.hG⟩, ⟨?_, hB.kept (hoth B hB1), ?_, ?_, fun _ hx => Or.inl hx⟩⟩
  · rw [cell_heap (hoth B hB1)]; exact h.h0
  · rw [cell_heap (hoth B hB1)]; exact h.h1
  · rw [cell_heap (hoth B hB1)]; exact h.h2
  · exact ⟨rfl, rfl, rfl, by simp [World.setRow], fun x hx => hoth x (by have := h.ck.ge g1 hm1; omega)⟩
  · intro o _
    rw [cell_heap (hoth B hB1)]
  · intro x _ _ hb
    exact hoth x (fun e => hb (Or.inr (e ▸ hm1)))

/-- the row's own shape, where there is a chunk -/
theorem Ck.addr {E SE : TypeId} {k : IntKind} {w : World} {base : Nat} {d : D} (h : Ck E SE k w base d) (hn : 0 < d.Gs.length) : ∃ R, d.ao = some ⟨R, 0, none⟩ := by
  obtain ⟨g, h1, _⟩ := owned_addr h.row hn
  exact ⟨g, h1⟩
theorem Ck.header {E SE : TypeId} {k : IntKind} {w : World} {base R : Nat} {d : D} (h : Ck E SE k w base d) (hR : d.ao = some ⟨R, 0, none⟩) {q g : Nat} (hq : d.Gs[q]? = some g) : w.cell? ⟨R, q, none⟩ = some (hdr d.C g) := by
  have hr := h.row
  rw [hR] at hr
  have hlt := (List.getElem?_eq_some_iff.1 hq).1
  rw [owned_cell hr q (by omega), List.getElem?_map, hq]
  rfl
theorem Ck.thaw {E SE : TypeId} {k : IntKind} {w : World} {base R : Nat} {d : D} (h : Ck E SE k w base d) (hR : d.ao = some ⟨R, 0, none⟩) (q : Nat) : w.frozen? ⟨R, q, none⟩ = false := by
  have hr := h.row
  rw [hR] at hr
  exact owned_frozen hr q

/-- two chunks change their places -/
def D.swap (d : D) (q1 q2 g1 g2 : Nat) : D := { d with Gs := (d.Gs.set q1 g2).set q2 g1, f := fun j => if j / d.C = q1 then d.f (q2 * d.C + j % d.C) else if j / d.C = q2 then d.f (q1 * d.C + j % d.C) else d.f j }

theorem mul_div' {q C r : Nat} (hr : r < C) : (q * C + r) / C = q := by rw [Nat.add_comm, Nat.add_mul_div_right _ _ (by omega), Nat.div_eq_of_lt hr, Nat.zero_add]
theorem mul_mod' {q C r : Nat} (hr : r < C) : (q * C + r) % C = r := by rw [Nat.add_comm, Nat.add_mul_mod_self_right, Nat.mod_eq_of_lt hr]

theorem Chd.swap {E SE : TypeId} {k : IntKind} {w : World} {base B off R : Nat} {d : D} (h : Chd E SE k w base B off d) (hB : Box w B) (hE : E ≠ 51) (hSE : SE ≠ 51) (hES : E ≠ SE) (q1 q2 g1 g2 : Nat) (hR : d.ao = some ⟨R, 0, none⟩)
    (hg1 : d.Gs[q1]? = some g1) (hg2 : d.Gs[q2]? = some g2) (hne : q1 ≠ q2) :
    Chd E SE k ((w.setCell ⟨R, q1, none⟩ (hdr d.C g2)).setCell ⟨R, q2, none⟩ (hdr d.C g1)) base B off (d.swap q1 q2 g1 g2) ∧
    Step base B off d (d.swap q1 q2 g1 g2) w ((w.setCell ⟨R, q1, none⟩ (hdr d.C g2)).setCell ⟨R, q2, none⟩ (hdr d.C g1)) := by
  have hm1 : g1 ∈ d.Gs := List.mem_of_getElem? hg1
  have hm2 : g2 ∈ d.Gs := List.mem_of_getElem? hg2
  have hl1 := (List.getElem?_eq_some_iff.1 hg1).1
  have hl2 := (List.getElem?_eq_some_iff.1 hg2).1
  have hBn := h.ck.off_box hB hE hSE
  have hRb : d.bl R := Or.inl (by rw [hR]; rfl)
  have hBR : B ≠ R := fun e => hBn (e ▸ hRb)
  have hoth : ∀ x, x ≠ R → ((w.setCell ⟨R, q1, none⟩ (hdr d.C g2)).setCell ⟨R, q2, none⟩ (hdr d.C g1)).heap[x]? = w.heap[x]? := by
    intro x hx
    rw [heap_setCell_other _ _ _ _ hx, heap_setCell_other _ _ _ _ hx]
  have hRne : ∀ g ∈ d.Gs, g ≠ R := by
    intro g hg e
    exact h.ck.row_ne hES g hg (by rw [hR, e]; rfl)
  have hr := h.ck.row
  rw [hR] at hr
  have hs1 := (World.ownsRow.stored hr q1 (hdr d.C g2)).1
  have hs2 := (World.ownsRow.stored hs1 q2 (hdr d.C g1)).1
  have hat : ∀ q, ((d.Gs.set q1 g2).set q2 g1)[q]? = if q = q2 then some g1 else if q = q1 then some g2 else d.Gs[q]? := by
    intro q
    by_cases e2 : q = q2
    · rw [if_pos e2, e2, List.getElem?_set_self (by simpa using hl2)]
    · rw [if_neg e2, List.getElem?_set_ne (fun e => e2 e.symm)]
      by_cases e1 : q = q1
      · rw [if_pos e1, e1, List.getElem?_set_self hl1]
      · rw [if_neg e1, List.getElem?_set_ne (fun e => e1 e.symm)]
  have hmem : ∀ g ∈ (d.Gs.set q1 g2).set q2 g1, g ∈ d.Gs := by
    intro g hg
    rcases List.mem_or_eq_of_mem_set hg with h1 | h1
    · rcases List.mem_or_eq_of_mem_set h1 with h2 | h2
      · exact h2
      · exact h2 ▸ hm2
    · exact h1 ▸ hm1
  have inj : ∀ {a b g}, d.Gs[a]? = some g → d.Gs[b]? = some g → a = b := fun {a b g} ha hb => (List.getElem?_inj (List.getElem?_eq_some_iff.1 ha).1 h.ck.nodup).1 (ha.trans hb.symm)
  have ck2 : Ck E SE k ((w.setCell ⟨R, q1, none⟩ (hdr d.C g2)).setCell ⟨R, q2, none⟩ (hdr d.C g1)) base (d.swap q1 q2 g1 g2) := by
    refine ⟨?_, ?_, fun g hg => h.ck.ge g (hmem g hg), ?_⟩
    · show Row.owned _ base ⟨SE, 1, d.ao, ((d.Gs.set q1 g2).set q2 g1).length, d.cap, ((d.Gs.set q1 g2).set q2 g1).map (hdr d.C)⟩
      rw [hR, List.length_set, List.length_set, List.map_set, List.map_set]
      exact hs2
    · show ((d.Gs.set q1 g2).set q2 g1).Nodup
      unfold List.Nodup
      rw [List.pairwise_iff_getElem]
      intro a b ha hb hab e0
      have e : ((d.Gs.set q1 g2).set q2 g1)[a]? = ((d.Gs.set q1 g2).set q2 g1)[b]? := by rw [List.getElem?_eq_getElem ha, List.getElem?_eq_getElem hb, e0]
      rw [hat a, hat b] at e
      have hlen : b < d.Gs.length := by simpa using hb
      by_cases ea2 : a = q2 <;> by_cases eb2 : b = q2
      · omega
      · rw [if_pos ea2, if_neg eb2] at e
        by_cases eb1 : b = q1
        · rw [if_pos eb1] at e
          have : g1 = g2 := by simpa using e
          subst this
          exact hne (inj hg1 hg2)
        · rw [if_neg eb1] at e
          exact eb1 (inj e.symm hg1)
      · rw [if_neg ea2, if_pos eb2] at e
        by_cases ea1 : a = q1
        · rw [if_pos ea1] at e
          have : g2 = g1 := by simpa using e
          subst this
          exact hne (inj hg1 hg2)
        · rw [if_neg ea1] at e
          exact ea1 (inj e hg1)
      · rw [if_neg ea2, if_neg eb2] at e
        by_cases ea1 : a = q1 <;> by_cases eb1 : b = q1
        · omega
        · rw [if_pos ea1, if_neg eb1] at e
          exact eb2 (inj e.symm hg2)
        · rw [if_neg ea1, if_pos eb1] at e
          exact ea2 (inj e hg2)
        · rw [if_neg ea1, if_neg eb1] at e
          have hla : a < d.Gs.length := by omega
          have := (List.getElem?_inj hla h.ck.nodup).1 e
          omega
    · intro q g hq
      have hq' : ((d.Gs.set q1 g2).set q2 g1)[q]? = some g := hq
      rw [hat q] at hq'
      have fin : ∀ p, d.Gs[p]? = some g → (∀ r, r < d.C → d.f (p * d.C + r) = (d.swap q1 q2 g1 g2).f (q * d.C + r)) → ∃ cur : Array Value, ((w.setCell ⟨R, q1, none⟩ (hdr d.C g2)).setCell ⟨R, q2, none⟩ (hdr d.C g1)).heap[g]? = some (.cells cur E (0, 0)) ∧ cur.size = (d.swap q1 q2 g1 g2).C ∧ ∀ r, r < (d.swap q1 q2 g1 g2).C → cur[r]? = some (.int k ((d.swap q1 q2 g1 g2).f (q * (d.swap q1 q2 g1 g2).C + r))) := by
        intro p hp hf
        obtain ⟨cur, c1, c2, c3⟩ := h.ck.cell p g hp
        refine ⟨cur, (hoth g (hRne g (List.mem_of_getElem? hp))).trans c1, c2, ?_⟩
        intro r hr2
        have hr3 : r < d.C := hr2
        rw [c3 r hr3, hf r hr3]
        rfl
      by_cases e2 : q = q2
      · rw [if_pos e2] at hq'
        have hgg : g1 = g := by simpa using hq'
        subst hgg
        refine fin q1 hg1 ?_
        intro r hr2
        show _ = if (q * d.C + r) / d.C = q1 then _ else if (q * d.C + r) / d.C = q2 then d.f (q1 * d.C + (q * d.C + r) % d.C) else _
        rw [mul_div' hr2, mul_mod' hr2, if_neg (by omega), if_pos e2]
      · rw [if_neg e2] at hq'
        by_cases e1 : q = q1
        · rw [if_pos e1] at hq'
          have hgg : g2 = g := by simpa using hq'
          subst hgg
          refine fin q2 hg2 ?_
          intro r hr2
          show _ = if (q * d.C + r) / d.C = q1 then d.f (q2 * d.C + (q * d.C + r) % d.C) else _
          rw [mul_div' hr2, mul_mod' hr2, if_pos e1]
        · rw [if_neg e1] at hq'
          refine fin q hq' ?_
          intro r hr2
          show _ = if (q * d.C + r) / d.C = q1 then _ else if (q * d.C + r) / d.C = q2 then _ else d.f (q * d.C + r)
          rw [mul_div' hr2, if_neg e1, if_neg e2]
  have hlen : (d.swap q1 q2 g1 g2).Gs.length = d.Gs.length := by simp [D.swap]
  refine ⟨⟨?_, ?_, ?_, ck2, h.hs, ?_, ?_⟩, ⟨?_, hB.kept (hoth B hBR), ?_, ?_, ?_⟩⟩
  · rw [cell_heap (hoth B hBR)]; exact h.h0
  · rw [cell_heap (hoth B hBR), hlen]; exact h.h1
  · rw [cell_heap (hoth B hBR)]; exact h.h2
  · rw [hlen]; exact h.hL
  · rw [hlen]; exact h.hG
  · have hRge := (h.ck.kinds hRb).1
    exact (below_set _ _ _ hRge).trans (below_set _ _ _ hRge)
  · intro o _
    rw [cell_heap (hoth B hBR)]
  · intro x _ _ hb
    exact hoth x (fun e => hb (e ▸ hRb))
  · intro x hx
    rcases hx with hx | hx
    · exact Or.inl (Or.inl hx)
    · exact Or.inl (Or.inr (hmem x hx))
end Blocks
