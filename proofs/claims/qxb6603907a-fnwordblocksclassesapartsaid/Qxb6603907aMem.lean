import Derived.Test.Qxb6603907aRowsKit
import Derived.Deep.Draws
import Derived.Deep.OwnRows
import Derived.Below
/-
  WHAT LIES IN MEMORY: a chunked array (its header in the block of the word blocks, its row of chunks, its chunks), and what a step on it leaves alone.
-/
namespace Blocks
open Go Go.RowKit RowsKit

/-- the header of a chunk of 'C' elements that fills the block 'g' -/
def hdr (C g : Nat) : Value := .slice (some ⟨g, 0, none⟩) C C

/-- what a chunked array is, in plain words: its shift, its row of chunks (address, capacity), the chunks' blocks, its length, and what stands at each index -/
structure D where
  s : Nat
  ao : Option Addr
  cap : Nat
  Gs : List Nat
  L : Nat
  f : Nat → Int

/-- the blocks that it lies in -/
def D.bl (d : D) (x : Nat) : Prop := d.ao.map (·.block) = some x ∨ x ∈ d.Gs
def D.C (d : D) : Nat := 2 ^ d.s

theorem ownBlock_slice (ao : Option Addr) (n cap : Nat) : Value.ownBlock (.slice ao n cap) = ao.map (·.block) := by cases ao <;> rfl

structure Ck (E SE : TypeId) (k : IntKind) (w : World) (base : Nat) (d : D) : Prop where
  row : Row.owned w base ⟨SE, 1, d.ao, d.Gs.length, d.cap, d.Gs.map (hdr d.C)⟩
  nodup : d.Gs.Nodup
  ge : ∀ g ∈ d.Gs, base ≤ g
  cell : ∀ q g, d.Gs[q]? = some g → ∃ cur : Array Value, w.heap[g]? = some (.cells cur E (0, 0)) ∧ cur.size = d.C ∧ ∀ r, r < d.C → cur[r]? = some (.int k (d.f (q * d.C + r)))

/-- it hangs on its own blocks alone -/
theorem Ck.kept {E SE : TypeId} {k : IntKind} {w w' : World} {base : Nat} {d : D} (h : Ck E SE k w base d) (hk : ∀ x, d.bl x → w'.heap[x]? = w.heap[x]?) : Ck E SE k w' base d := by
  refine ⟨⟨h.row.1, ?_⟩, h.nodup, h.ge, ?_⟩
  · rcases h.row.2 with h1 | ⟨g, cap, cur, h1, h2, h3, h4⟩
    · exact Or.inl h1
    · refine Or.inr ⟨g, cap, cur, h1, h2, ?_, h4⟩
      rw [hk g (Or.inl (by simp only [Value.slice.injEq] at h1; rw [h1.1]; rfl))]
      exact h3
  · intro q g hg
    obtain ⟨cur, h1, h2⟩ := h.cell q g hg
    exact ⟨cur, by rw [hk g (Or.inr (List.mem_of_getElem? hg))]; exact h1, h2⟩

/-- the kinds of its blocks -/
theorem Ck.kinds {E SE : TypeId} {k : IntKind} {w : World} {base : Nat} {d : D} (h : Ck E SE k w base d) {x : Nat} (hx : d.bl x) : base ≤ x ∧ ∃ cur t, w.heap[x]? = some (.cells cur t (0, 0)) ∧ (t = E ∨ t = SE) := by
  rcases hx with hx | hx
  · rcases h.row.2 with ⟨h1, _⟩ | ⟨g, cap, cur, h1, h2, h3, h4⟩
    · simp only [Value.slice.injEq] at h1
      rw [h1.1] at hx
      cases hx
    · simp only [Value.slice.injEq] at h1
      rw [h1.1] at hx
      simp only [Option.map_some, Option.some.injEq] at hx
      subst hx
      exact ⟨h2, cur, SE, h3, Or.inr rfl⟩
  · obtain ⟨q, hq⟩ := List.mem_iff_getElem?.1 hx
    obtain ⟨cur, h1, _⟩ := h.cell q x hq
    exact ⟨h.ge x hx, cur, E, h1, Or.inl rfl⟩
theorem Ck.lt {E SE : TypeId} {k : IntKind} {w : World} {base : Nat} {d : D} (h : Ck E SE k w base d) {x : Nat} (hx : d.bl x) : x < w.heap.size := by
  obtain ⟨_, cur, t, h1, _⟩ := h.kinds hx
  exact (Array.getElem?_eq_some_iff.1 h1).1

/-- the block of the word blocks -/
def Box (w : World) (B : Nat) : Prop := ∃ cs : Array Value, w.heap[B]? = some (.cells cs 51 (0, 0)) ∧ cs.size = 384
theorem Box.lt {w : World} {B : Nat} (h : Box w B) : B < w.heap.size := by
  obtain ⟨cs, h1, _⟩ := h
  exact (Array.getElem?_eq_some_iff.1 h1).1
theorem Box.kept {w w' : World} {B : Nat} (h : Box w B) (hk : w'.heap[B]? = w.heap[B]?) : Box w' B := by
  obtain ⟨cs, h1, h2⟩ := h
  exact ⟨cs, hk.trans h1, h2⟩
theorem Box.frozen {w : World} {B : Nat} (h : Box w B) (o : Nat) : w.frozen? ⟨B, o, none⟩ = false := by
  obtain ⟨cs, h1, _⟩ := h
  simp [World.frozen?, h1]
theorem heap_setCell_other (w : World) (a : Addr) (v : Value) (x : Nat) (h : x ≠ a.block) : (w.setCell a v).heap[x]? = w.heap[x]? := by
  simp only [World.setCell, Array.getElem?_modify]
  rw [if_neg (fun e => h e.symm)]
theorem Box.set {w : World} {B : Nat} (h : Box w B) (o : Nat) (v : Value) : Box (w.setCell ⟨B, o, none⟩ v) B := by
  obtain ⟨cs, h1, h2⟩ := h
  refine ⟨cs.setIfInBounds o v, ?_, by simpa using h2⟩
  simp [World.setCell, Array.getElem?_modify, h1]
theorem Ck.off_box {E SE : TypeId} {k : IntKind} {w : World} {base B : Nat} {d : D} (h : Ck E SE k w base d) (hB : Box w B) (hE : E ≠ 51) (hSE : SE ≠ 51) : ¬ d.bl B := by
  intro hx
  obtain ⟨_, cur, t, h1, h2⟩ := h.kinds hx
  obtain ⟨cs, h3, _⟩ := hB
  rw [h3] at h1
  simp only [Option.some.injEq, Obj.cells.injEq] at h1
  rcases h2 with h2 | h2
  · exact hE (h2 ▸ h1.2.1.symm)
  · exact hSE (h2 ▸ h1.2.1.symm)
/-- two arrays of other kinds share no block -/
theorem Ck.apart {E SE E' SE' : TypeId} {k k' : IntKind} {w : World} {base : Nat} {d d' : D} (h : Ck E SE k w base d) (h' : Ck E' SE' k' w base d') (h1 : E ≠ E') (h2 : E ≠ SE') (h3 : SE ≠ E') (h4 : SE ≠ SE') {x : Nat} (hx : d.bl x) : ¬ d'.bl x := by
  intro hx'
  obtain ⟨_, cur, t, e1, e2⟩ := h.kinds hx
  obtain ⟨_, cur', t', e3, e4⟩ := h'.kinds hx'
  rw [e1] at e3
  simp only [Option.some.injEq, Obj.cells.injEq] at e3
  rcases e2 with rfl | rfl <;> rcases e4 with rfl | rfl
  · exact h1 e3.2.1
  · exact h2 e3.2.1
  · exact h3 e3.2.1
  · exact h4 e3.2.1

/-- a chunked array at 'off' in the block of the word blocks -/
structure Chd (E SE : TypeId) (k : IntKind) (w : World) (base B off : Nat) (d : D) : Prop where
  h0 : w.cell? ⟨B, off, none⟩ = some (.int .u8 d.s)
  h1 : w.cell? ⟨B, off + 1, none⟩ = some (.slice d.ao d.Gs.length d.cap)
  h2 : w.cell? ⟨B, off + 2, none⟩ = some (.int .i64 d.L)
  ck : Ck E SE k w base d
  hs : d.s ≤ 20
  hL : d.L ≤ d.Gs.length * d.C
  hG : d.Gs.length * d.C ≤ 2097152

/-- what a step on the array at 'off' leaves alone -/
structure Step (base B off : Nat) (d d' : D) (w w' : World) : Prop where
  below : Below base w w'
  box : Box w' B
  head : ∀ o, (o < off ∨ off + 2 < o) → w'.cell? ⟨B, o, none⟩ = w.cell? ⟨B, o, none⟩
  rest : ∀ x, x < w.heap.size → x ≠ B → ¬ d.bl x → w'.heap[x]? = w.heap[x]?
  new : ∀ x, d'.bl x → d.bl x ∨ w.heap.size ≤ x

theorem Step.trans {base B off : Nat} {d d' d'' : D} {w w' w'' : World} (h : Step base B off d d' w w') (k : Step base B off d' d'' w' w'') : Step base B off d d'' w w'' := by
  refine ⟨h.below.trans k.below, k.box, fun o ho => (k.head o ho).trans (h.head o ho), ?_, ?_⟩
  · intro x hx hB hn
    refine (k.rest x (Nat.lt_of_lt_of_le hx h.below.size) hB ?_).trans (h.rest x hx hB hn)
    intro hb
    rcases h.new x hb with h1 | h1
    · exact hn h1
    · omega
  · intro x hx
    rcases k.new x hx with h1 | h1
    · exact h.new x h1
    · exact Or.inr (Nat.le_trans h.below.size h1)
end Blocks
