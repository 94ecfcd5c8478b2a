import Derived.Test.Qxb6603907aMemPop
import Derived.Test.Qxb6603907aGrow
import Derived.Laws.OwnMore
namespace Go.Proofs.Qxb6603907a
open Go.RowKit RowsKit Blocks

/-- 'append' onto an owned row that has room, as one step of a region that draws -/
theorem step_append_fits {P : Program} {ops : Array Oper} {o : Oper} {a : Act} {w : World} {K : Act → World → Prop} {Q : Exit → Act → World → Prop} {F : Prop}
    (hg : o.guard = none) (s x : Operand) (t : TypeId) (hop : o.op = Op.call { callee := Callee.builtin Builtin.append, args := #[s, x], argTypes := #[t, t] })
    (base : Nat) (e : TypeId) (i : TypeInfo) (size : Nat) (ht : P.underlying t = some (.slice e)) (hi : P.info? e = some i)
    (hsize : i.size = size) (g n cap : Nat) (xs : List Value) (hs : a.eval s = .slice (some ⟨g, 0, none⟩) n cap) (hown : Row.owned w base ⟨e, size, some ⟨g, 0, none⟩, n, cap, xs⟩)
    (ad : Addr) (m c : Nat) (news : List Value) (hx : a.eval x = .slice (some ad) m c) (hl : news.length = m * size) (hnews : ∀ j u, news[j]? = some u → w.cell? (ad.add j) = some u) (h1 : ∀ u ∈ news, u.oneCell' = true)
    (hroom : n + m ≤ cap)
    (h : ∀ w', Row.owned w' base ⟨e, size, some ⟨g, 0, none⟩, n + m, cap, xs ++ news⟩ → w.grownBy w' (some g) → K (a.put o.dst (.slice (some ⟨g, 0, none⟩) (n + m) cap)) w') :
    if Region.wanted o (yielded ops a.tmps) = true then Oper.wp P o a w K Q else F := by
  have hw : Region.wanted o (yielded ops a.tmps) = true := by simp [Region.wanted, hg]
  rw [if_pos hw]
  obtain ⟨w', hr, h2, h3⟩ := run_append_fits (P := P) w base t o.type e i size ht hi hsize g n cap xs hown ad m c news hl hnews h1 hroom
  unfold Oper.wp
  simp [execOp, hop, resolve, invoke, builtin, hs, hx, hr, Result.andThen]
  exact h w' h2 h3

theorem hdr_one (C : Nat) (Gs : List Nat) : ∀ u ∈ Gs.map (hdr C), u.oneCell' = true := by
  intro u hu
  simp only [List.mem_map] at hu
  obtain ⟨g, _, rfl⟩ := hu
  rfl

theorem renewed {E SE : TypeId} {k : IntKind} {w w2 : World} {base B off : Nat} {d : D} (h : Chd E SE k w base B off d) (hB : Box w B) (hbB : base ≤ B) (hE : E ≠ 51) (hSE : SE ≠ 51) (c : Nat) (x : Obj)
    (hg : (w.alloc x).grownBy w2 (some w.heap.size)) (hown : Row.owned w2 base ⟨SE, 1, some ⟨w.heap.size, 0, none⟩, d.Gs.length, c, d.Gs.map (hdr d.C)⟩) :
    Chd E SE k (w2.setCell ⟨B, off + 1, none⟩ (.slice (some ⟨w.heap.size, 0, none⟩) d.Gs.length c)) base B off (d.renew (some ⟨w.heap.size, 0, none⟩) c) ∧
    Step base B off d (d.renew (some ⟨w.heap.size, 0, none⟩) c) w (w2.setCell ⟨B, off + 1, none⟩ (.slice (some ⟨w.heap.size, 0, none⟩) d.Gs.length c)) := by
  refine h.renew hB hbB hE hSE _ c hown ⟨hg.os, hg.tape, hg.output, ?_, ?_⟩ ?_
  · have := hg.size
    rw [World.size_alloc] at this
    omega
  · intro y hy
    rw [hg.block y (by rw [World.size_alloc]; omega) (fun e => by simp only [Option.some.injEq] at e; omega), Below.heap_alloc _ _ y hy]
  · intro y hy
    simp only [Option.map_some, Option.some.injEq] at hy
    omega

theorem made_row {w : World} {base c : Nat} (hb : base ≤ w.heap.size) (hc : c ≤ maxLen) (SE : TypeId) (z : Value) : Row.owned (w.alloc (.cells (madeCells #[z] c) SE)) base ⟨SE, 1, some ⟨w.heap.size, 0, none⟩, 0, c, []⟩ :=
  World.ownsRow_made w _ c hb hc (by rw [size_madeCells, Nat.mul_one])

theorem row_src {w : World} {base e R n cap : Nat} {xs : List Value} (h : Row.owned w base ⟨e, 1, some ⟨R, 0, none⟩, n, cap, xs⟩) (x : Obj) : ∀ j u, xs[j]? = some u → (w.alloc x).cell? ((⟨R, 0, none⟩ : Addr).add j) = some u := by
  intro j u hu
  have h2 : Row.owned (w.alloc x) base ⟨e, 1, some ⟨R, 0, none⟩, n, cap, xs⟩ := World.ownsRow.alloc h _
  exact World.ownsRow.cells h2 (g := R) rfl j u hu
end Go.Proofs.Qxb6603907a
