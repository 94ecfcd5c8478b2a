import Derived.Test.Qxb6603907aMem
namespace Blocks
open Go Go.RowKit RowsKit

theorem ne_off {B a b : Nat} (h : a ≠ b) : (⟨B, a, none⟩ : Addr) ≠ ⟨B, b, none⟩ := fun e => h (by injection e)

theorem cell_heap {w w' : World} {b : Nat} (h : w'.heap[b]? = w.heap[b]?) (o : Nat) : w'.cell? ⟨b, o, none⟩ = w.cell? ⟨b, o, none⟩ := by
  unfold World.cell?
  rw [h]

theorem Chd.same {E SE : TypeId} {k : IntKind} {w w' : World} {base B off : Nat} {d : D} (h : Chd E SE k w base B off d) (hh : w'.heap = w.heap) : Chd E SE k w' base B off d :=
  ⟨(cell_heap (by rw [hh]) _).trans h.h0, (cell_heap (by rw [hh]) _).trans h.h1, (cell_heap (by rw [hh]) _).trans h.h2, h.ck.kept (fun x _ => by rw [hh]), h.hs, h.hL, h.hG⟩

theorem below_draws {base : Nat} (w : World) (n : Nat) : Below base w (w.drewN n) := ⟨rfl, rfl, rfl, Nat.le_refl _, fun _ _ => rfl⟩
theorem below_set {base : Nat} (w : World) (a : Addr) (v : Value) (h : base ≤ a.block) : Below base w (w.setCell a v) :=
  ⟨rfl, rfl, rfl, by simp, fun x hx => heap_setCell_other w a v x (by omega)⟩

theorem Step.draws {base B off : Nat} {d : D} {w : World} (hB : Box w B) (n : Nat) : Step base B off d d w (w.drewN n) :=
  ⟨below_draws w n, hB.kept rfl, fun _ _ => rfl, fun _ _ _ _ => rfl, fun _ h => Or.inl h⟩

/-- the length is written anew -/
theorem Chd.setLen {E SE : TypeId} {k : IntKind} {w : World} {base B off : Nat} {d : D} (h : Chd E SE k w base B off d) (hB : Box w B) (hbB : base ≤ B) (hE : E ≠ 51) (hSE : SE ≠ 51) (L' : Nat) (hL : L' ≤ d.Gs.length * d.C) :
    Chd E SE k (w.setCell ⟨B, off + 2, none⟩ (.int .i64 (L' : Int))) base B off { d with L := L' } ∧ Step base B off d { d with L := L' } w (w.setCell ⟨B, off + 2, none⟩ (.int .i64 (L' : Int))) := by
  have hn := h.ck.off_box hB hE hSE
  have hc : Ck E SE k w base { d with L := L' } := ⟨h.ck.row, h.ck.nodup, h.ck.ge, h.ck.cell⟩
  refine ⟨⟨?_, ?_, ?_, hc.kept ?_, h.hs, hL, h.hG⟩, ⟨below_set _ _ _ hbB, hB.set _ _, ?_, ?_, fun _ hx => Or.inl hx⟩⟩
  · rw [World.cell?_setCell_other _ _ _ _ (by simp)]; exact h.h0
  · rw [World.cell?_setCell_other _ _ _ _ (by simp)]; exact h.h1
  · exact World.cell?_setCell_same _ _ _ h.h2
  · intro x hx
    exact heap_setCell_other _ _ _ _ (fun e => hn (by rw [← show x = B from e]; exact hx))
  · intro o ho
    exact World.cell?_setCell_other _ _ _ _ (ne_off (by omega))
  · intro x _ hx _
    exact heap_setCell_other _ _ _ _ hx

/-- the array with one chunk more, all zeros -/
def D.more (d : D) (ao' : Option Addr) (cap' G n : Nat) : D := { d with ao := ao', cap := cap', Gs := d.Gs ++ [G], L := d.L + n, f := fun i => if i < d.Gs.length * d.C then d.f i else 0 }

theorem Chd.more {E SE : TypeId} {k : IntKind} {w w2 : World} {base B off : Nat} {d : D} (h : Chd E SE k w base B off d) (hB : Box w B) (hbB : base ≤ B) (hE : E ≠ 51) (hSE : SE ≠ 51) (hES : E ≠ SE) (n : Nat) (ao' : Option Addr) (cap' : Nat)
    (hown : Row.owned w2 base ⟨SE, 1, ao', d.Gs.length + 1, cap', d.Gs.map (hdr d.C) ++ [.slice (some ⟨w.heap.size, 0, none⟩) d.C d.C]⟩)
    (hg : ((w.alloc (.cells (madeCells #[.int k 0] d.C) E)).alloc (.cells #[.slice (some ⟨w.heap.size, 0, none⟩) d.C d.C] SE)).grownBy w2 (Value.ownBlock (.slice d.ao d.Gs.length d.cap)))
    (hn : ∀ x, Value.ownBlock (.slice ao' (d.Gs.length + 1) cap') = some x → Value.ownBlock (.slice d.ao d.Gs.length d.cap) = some x ∨ w.heap.size + 2 ≤ x)
    (hL : d.L + n ≤ (d.Gs.length + 1) * d.C) (hG : (d.Gs.length + 1) * d.C ≤ 2097152) :
    Chd E SE k ((w2.setCell ⟨B, off + 1, none⟩ (.slice ao' (d.Gs.length + 1) cap')).setCell ⟨B, off + 2, none⟩ (.int .i64 ((d.L + n : Nat) : Int))) base B off (d.more ao' cap' w.heap.size n) ∧
    Step base B off d (d.more ao' cap' w.heap.size n) w ((w2.setCell ⟨B, off + 1, none⟩ (.slice ao' (d.Gs.length + 1) cap')).setCell ⟨B, off + 2, none⟩ (.int .i64 ((d.L + n : Nat) : Int))) := by
  rw [ownBlock_slice] at hg
  simp only [ownBlock_slice] at hn
  have hBn := h.ck.off_box hB hE hSE
  have hBlt := hB.lt
  have hbase : base ≤ w.heap.size := by omega
  -- blocks that were there, but the row's
  have old : ∀ x, x < w.heap.size → d.ao.map (·.block) ≠ some x → w2.heap[x]? = w.heap[x]? := by
    intro x hx hne
    rw [hg.block x (by simp; omega) (fun e => hne e.symm), Below.heap_alloc _ _ x (by simp; omega), Below.heap_alloc _ _ x hx]
  have hBrow : d.ao.map (·.block) ≠ some B := fun e => hBn (Or.inl e)
  have hB2 : w2.heap[B]? = w.heap[B]? := old B hBlt hBrow
  have rowlt : ∀ x, d.ao.map (·.block) = some x → x < w.heap.size := fun x hx => h.ck.lt (Or.inl hx)
  have hGrow : d.ao.map (·.block) ≠ some w.heap.size := fun e => Nat.lt_irrefl _ (rowlt _ e)
  have hGc : w2.heap[w.heap.size]? = some (.cells (madeCells #[.int k 0] d.C) E (0, 0)) := by
    rw [hg.block _ (by simp; omega) (fun e => hGrow e.symm), Below.heap_alloc _ _ _ (by simp)]
    exact heap_alloc_new w _
  have hsz2 : w.heap.size + 2 ≤ w2.heap.size := by have := hg.size; simpa using this
  have chunk_ne : ∀ g ∈ d.Gs, d.ao.map (·.block) ≠ some g := by
    intro g hgm e
    obtain ⟨q, hq⟩ := List.mem_iff_getElem?.1 hgm
    obtain ⟨cur, h1, _⟩ := h.ck.cell q g hq
    rcases h.ck.row.2 with ⟨e1, _⟩ | ⟨g', cap, cur', e1, _, e3, _⟩
    · simp only [Value.slice.injEq] at e1
      rw [e1.1] at e; cases e
    · simp only [Value.slice.injEq] at e1
      rw [e1.1] at e
      simp only [Option.map_some, Option.some.injEq] at e
      subst e
      rw [h1] at e3
      simp only [Option.some.injEq, Obj.cells.injEq] at e3
      exact hES e3.2.1
  have newbl : ∀ x, (d.more ao' cap' w.heap.size n).bl x → d.bl x ∨ w.heap.size ≤ x := by
    intro x hx
    rcases hx with hx | hx
    · rcases hn x hx with h1 | h1
      · exact Or.inl (Or.inl h1)
      · exact Or.inr (by omega)
    · rcases List.mem_append.1 hx with h1 | h1
      · exact Or.inl (Or.inr h1)
      · simp only [List.mem_singleton] at h1
        exact Or.inr (by omega)
  have newne : ∀ x, (d.more ao' cap' w.heap.size n).bl x → x ≠ B := by
    intro x hx e
    subst e
    rcases newbl _ hx with h1 | h1
    · exact hBn h1
    · omega
  have ck2 : Ck E SE k w2 base (d.more ao' cap' w.heap.size n) := by
    refine ⟨?_, ?_, ?_, ?_⟩
    · have e1 : (d.Gs ++ [w.heap.size]).length = d.Gs.length + 1 := by simp
      have e2 : (d.Gs ++ [w.heap.size]).map (hdr d.C) = d.Gs.map (hdr d.C) ++ [.slice (some ⟨w.heap.size, 0, none⟩) d.C d.C] := by simp [hdr]
      show Row.owned w2 base ⟨SE, 1, ao', (d.Gs ++ [w.heap.size]).length, cap', (d.Gs ++ [w.heap.size]).map (hdr d.C)⟩
      rw [e1, e2]; exact hown
    · show (d.Gs ++ [w.heap.size]).Nodup
      rw [List.nodup_append]
      refine ⟨h.ck.nodup, by simp, ?_⟩
      intro a ha b hb
      simp only [List.mem_singleton] at hb
      have := h.ck.lt (Or.inr ha)
      omega
    · intro g hgm
      rcases List.mem_append.1 hgm with h1 | h1
      · exact h.ck.ge g h1
      · simp only [List.mem_singleton] at h1
        omega
    · intro q g hq
      have hq' : (d.Gs ++ [w.heap.size])[q]? = some g := hq
      by_cases hlt : q < d.Gs.length
      · rw [List.getElem?_append_left hlt] at hq'
        obtain ⟨cur, h1, h2, h3⟩ := h.ck.cell q g hq'
        have hm := List.mem_of_getElem? hq'
        refine ⟨cur, (old g (h.ck.lt (Or.inr hm)) (chunk_ne g hm)).trans h1, h2, ?_⟩
        intro r hr
        rw [h3 r hr]
        have hin : q * d.C + r < d.Gs.length * d.C := by
          have h5 : (q + 1) * d.C ≤ d.Gs.length * d.C := Nat.mul_le_mul_right _ hlt
          have hr' : r < d.C := hr
          rw [Nat.add_mul] at h5; omega
        show _ = some (Value.int k (if q * d.C + r < d.Gs.length * d.C then d.f (q * d.C + r) else 0))
        rw [if_pos hin]
      · have hqe : q = d.Gs.length := by
          have := (List.getElem?_eq_some_iff.1 hq').1
          simp at this; omega
        subst hqe
        rw [List.getElem?_append_right (Nat.le_refl _)] at hq'
        simp at hq'
        subst hq'
        refine ⟨_, hGc, size_madeCells _ _, ?_⟩
        intro r hr
        have hr' : r < d.C := hr
        show _ = some (Value.int k (if d.Gs.length * d.C + r < d.Gs.length * d.C then d.f (d.Gs.length * d.C + r) else 0))
        rw [if_neg (by omega), ← Array.getElem?_toList, toList_madeCells_one]
        simp [hr']
  have heq : ∀ x, x ≠ B → ((w2.setCell ⟨B, off + 1, none⟩ (.slice ao' (d.Gs.length + 1) cap')).setCell ⟨B, off + 2, none⟩ (.int .i64 ((d.L + n : Nat) : Int))).heap[x]? = w2.heap[x]? := by
    intro x hx
    rw [heap_setCell_other _ _ _ _ hx, heap_setCell_other _ _ _ _ hx]
  have hlen : (d.more ao' cap' w.heap.size n).Gs.length = d.Gs.length + 1 := by simp [D.more]
  refine ⟨⟨?_, ?_, ?_, ck2.kept (fun x hx => heq x (newne x hx)), h.hs, ?_, ?_⟩, ⟨?_, ?_, ?_, ?_, newbl⟩⟩
  · rw [World.cell?_setCell_other _ _ _ _ (by simp), World.cell?_setCell_other _ _ _ _ (by simp), cell_heap hB2]; exact h.h0
  · rw [World.cell?_setCell_other _ _ _ _ (by simp), World.cell?_setCell_same _ _ _ ((cell_heap hB2 _).trans h.h1), hlen]; rfl
  · exact World.cell?_setCell_same _ _ _ (by rw [World.cell?_setCell_other _ _ _ _ (by simp), cell_heap hB2]; exact h.h2)
  · rw [hlen]; exact hL
  · rw [hlen]; exact hG
  · refine Below.trans ?_ (below_set _ _ _ hbB)
    refine Below.trans ?_ (below_set _ _ _ hbB)
    exact ⟨hg.os, hg.tape, hg.output, by omega, fun x hx => old x (by omega) (fun e => by have := (h.ck.kinds (Or.inl e)).1; omega)⟩
  · exact ((hB.kept hB2).set _ _).set _ _
  · intro o ho
    rw [World.cell?_setCell_other _ _ _ _ (ne_off (by omega)), World.cell?_setCell_other _ _ _ _ (ne_off (by omega)), cell_heap hB2]
  · intro x hx hxB hb
    rw [heq x hxB]
    exact old x hx (fun e => hb (Or.inl e))
end Blocks
