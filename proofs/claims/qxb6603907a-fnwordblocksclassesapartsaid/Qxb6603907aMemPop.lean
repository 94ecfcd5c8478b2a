import Derived.Test.Qxb6603907aMemCut
namespace Blocks
open Go Go.RowKit RowsKit

/-- a row that is cut at its end -/
theorem owned_cut {w : World} {base e m n cap : Nat} {ao : Option Addr} {xs : List Value} (h : Row.owned w base ⟨e, 1, ao, n, cap, xs⟩) (hm : m ≤ n) : Row.owned w base ⟨e, 1, ao, m, cap, xs.take m⟩ := by
  have hi : Inv w base ([] ++ (⟨e, 1, ao, n, cap, xs⟩ : Row) :: []) := ⟨fun r hr => by simp only [List.nil_append, List.mem_singleton] at hr; subst hr; exact h, List.pairwise_singleton _ _⟩
  have := (hi.cut m hm).at
  rw [Nat.mul_one] at this
  exact this

def D.pop (d : D) (m : Nat) : D := { d with Gs := d.Gs.take m }

theorem Chd.pop {E SE : TypeId} {k : IntKind} {w : World} {base B off R : Nat} {d : D} (h : Chd E SE k w base B off d) (hB : Box w B) (hbB : base ≤ B) (hE : E ≠ 51) (hSE : SE ≠ 51) (hES : E ≠ SE) (m : Nat) (hR : d.ao = some ⟨R, 0, none⟩) (hm : d.Gs.length = m + 1) (hL : d.L ≤ m * d.C) :
    Chd E SE k ((w.setCell ⟨R, m, none⟩ (.slice none 0 0)).setCell ⟨B, off + 1, none⟩ (.slice d.ao m d.cap)) base B off (d.pop m) ∧
    Step base B off d (d.pop m) w ((w.setCell ⟨R, m, none⟩ (.slice none 0 0)).setCell ⟨B, off + 1, none⟩ (.slice d.ao m d.cap)) := by
  have hBn := h.ck.off_box hB hE hSE
  have hRb : d.bl R := Or.inl (by rw [hR]; rfl)
  have hBR : B ≠ R := fun e => hBn (e ▸ hRb)
  have hlen : (d.pop m).Gs.length = m := by simp [D.pop, hm]
  have hlen' : (d.Gs.take m).length = m := hlen
  have hmem : ∀ g ∈ d.Gs.take m, g ∈ d.Gs := fun g hg => List.mem_of_mem_take hg
  have hoth : ∀ x, x ≠ R → x ≠ B → ((w.setCell ⟨R, m, none⟩ (.slice none 0 0)).setCell ⟨B, off + 1, none⟩ (.slice d.ao m d.cap)).heap[x]? = w.heap[x]? := by
    intro x hx hxB
    rw [heap_setCell_other _ _ _ _ hxB, heap_setCell_other _ _ _ _ hx]
  have hRne : ∀ g ∈ d.Gs, g ≠ R := fun g hg e => h.ck.row_ne hES g hg (by rw [hR, e]; rfl)
  have hB1 : (w.setCell ⟨R, m, none⟩ (.slice none 0 0)).heap[B]? = w.heap[B]? := heap_setCell_other _ _ _ _ hBR
  have hr := h.ck.row
  rw [hR, hm] at hr
  have hs1 : Row.owned (w.setCell ⟨R, m, none⟩ (.slice none 0 0)) base ⟨SE, 1, some ⟨R, 0, none⟩, m + 1, d.cap, (d.Gs.map (hdr d.C)).set m (.slice none 0 0)⟩ := (World.ownsRow.stored hr m (.slice none 0 0)).1
  have hs2 := owned_cut hs1 (Nat.le_succ m)
  have htk : ((d.Gs.map (hdr d.C)).set m (.slice none 0 0)).take m = (d.Gs.take m).map (hdr d.C) := by
    rw [List.take_set_of_le (Nat.le_refl m), List.map_take]
  rw [htk] at hs2
  have ck1 : Ck E SE k (w.setCell ⟨R, m, none⟩ (.slice none 0 0)) base (d.pop m) := by
    refine ⟨?_, ?_, fun g hg => h.ck.ge g (hmem g hg), ?_⟩
    · show Row.owned _ base ⟨SE, 1, d.ao, (d.Gs.take m).length, d.cap, (d.Gs.take m).map (hdr d.C)⟩
      rw [hR, hlen']; exact hs2
    · exact h.ck.nodup.sublist (List.take_sublist m d.Gs)
    · intro q g hq
      have hq' : (d.Gs.take m)[q]? = some g := hq
      have hqm : q < m := by
        have := (List.getElem?_eq_some_iff.1 hq').1
        omega
      rw [List.getElem?_take_of_lt hqm] at hq'
      obtain ⟨cur, c1, c2, c3⟩ := h.ck.cell q g hq'
      exact ⟨cur, (heap_setCell_other _ _ _ _ (hRne g (List.mem_of_getElem? hq'))).trans c1, c2, c3⟩
  have newbl : ∀ x, (d.pop m).bl x → d.bl x := by
    intro x hx
    rcases hx with hx | hx
    · exact Or.inl hx
    · exact Or.inr (hmem x hx)
  have hRge := (h.ck.kinds hRb).1
  refine ⟨⟨?_, ?_, ?_, ck1.kept ?_, h.hs, ?_, ?_⟩, ⟨?_, (hB.kept hB1).set _ _, ?_, ?_, fun x hx => Or.inl (newbl x hx)⟩⟩
  · rw [World.cell?_setCell_other _ _ _ _ (ne_off (by omega)), cell_heap hB1]; exact h.h0
  · rw [hlen]
    exact World.cell?_setCell_same _ _ _ ((cell_heap hB1 _).trans h.h1)
  · rw [World.cell?_setCell_other _ _ _ _ (ne_off (by omega)), cell_heap hB1]; exact h.h2
  · intro x hx
    exact heap_setCell_other _ _ _ _ (fun e => hBn (by rw [← show x = B from e]; exact newbl x hx))
  · rw [hlen]; exact hL
  · rw [hlen]
    have h5 : m * d.C ≤ (m + 1) * d.C := Nat.mul_le_mul_right _ (Nat.le_succ m)
    have h6 := h.hG
    rw [hm] at h6
    exact Nat.le_trans h5 h6
  · exact (below_set _ _ _ hRge).trans (below_set _ _ _ hbB)
  · intro o ho
    rw [World.cell?_setCell_other _ _ _ _ (ne_off (by omega)), cell_heap hB1]
  · intro x _ hxB hb
    exact hoth x (fun e => hb (e ▸ hRb)) hxB

def D.renew (d : D) (ao' : Option Addr) (cap' : Nat) : D := { d with ao := ao', cap := cap' }

theorem Chd.renew {E SE : TypeId} {k : IntKind} {w w2 : World} {base B off : Nat} {d : D} (h : Chd E SE k w base B off d) (hB : Box w B) (hbB : base ≤ B) (hE : E ≠ 51) (hSE : SE ≠ 51) (ao' : Option Addr) (cap' : Nat)
    (hown : Row.owned w2 base ⟨SE, 1, ao', d.Gs.length, cap', d.Gs.map (hdr d.C)⟩) (hbel : Below w.heap.size w w2) (hn : ∀ x, ao'.map (·.block) = some x → w.heap.size ≤ x) :
    Chd E SE k (w2.setCell ⟨B, off + 1, none⟩ (.slice ao' d.Gs.length cap')) base B off (d.renew ao' cap') ∧
    Step base B off d (d.renew ao' cap') w (w2.setCell ⟨B, off + 1, none⟩ (.slice ao' d.Gs.length cap')) := by
  have hBn := h.ck.off_box hB hE hSE
  have hBlt := hB.lt
  have hB2 := hbel.block B hBlt
  have newbl : ∀ x, (d.renew ao' cap').bl x → d.bl x ∨ w.heap.size ≤ x := by
    intro x hx
    rcases hx with hx | hx
    · exact Or.inr (hn x hx)
    · exact Or.inl (Or.inr hx)
  have ck2 : Ck E SE k w2 base (d.renew ao' cap') := by
    refine ⟨hown, h.ck.nodup, h.ck.ge, ?_⟩
    intro q g hq
    obtain ⟨cur, c1, c2, c3⟩ := h.ck.cell q g hq
    exact ⟨cur, (hbel.block g (h.ck.lt (Or.inr (List.mem_of_getElem? hq)))).trans c1, c2, c3⟩
  refine ⟨⟨?_, ?_, ?_, ck2.kept ?_, h.hs, h.hL, h.hG⟩, ⟨?_, (hB.kept hB2).set _ _, ?_, ?_, newbl⟩⟩
  · rw [World.cell?_setCell_other _ _ _ _ (ne_off (by omega)), cell_heap hB2]; exact h.h0
  · exact World.cell?_setCell_same _ _ _ ((cell_heap hB2 _).trans h.h1)
  · rw [World.cell?_setCell_other _ _ _ _ (ne_off (by omega)), cell_heap hB2]; exact h.h2
  · intro x hx
    refine heap_setCell_other _ _ _ _ (fun e => ?_)
    have e' : x = B := e
    subst e'
    rcases newbl _ hx with h1 | h1
    · exact hBn h1
    · omega
  · refine (hbel.mono ?_).trans (below_set _ _ _ hbB)
    omega
  · intro o ho
    rw [World.cell?_setCell_other _ _ _ _ (ne_off (by omega)), cell_heap hB2]
  · intro x hx hxB _
    rw [heap_setCell_other _ _ _ _ hxB]
    exact hbel.block x hx
end Blocks
