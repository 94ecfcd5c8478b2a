import Derived.Test.Qxb6603907aDrain
import Derived.Test.Qxb6603907aClone
import Derived.Test.Qxb6603907aStart
/-
  WHAT THE SCRIPT CARRIES FROM ROUND TO ROUND.
-/
namespace Go.Proofs.Qxb6603907a
open Go.RowKit RowsKit Blocks

/-- one element is put behind a row -/
structure Pushed (w w' : World) (base : Nat) (e : TypeId) (k : IntKind) (ao ao' : Option Addr) (n cap' : Nat) (f : Nat → Int) (v : Int) : Prop where
  own : Row.owned w' base ⟨e, 1, ao', n + 1, cap', segs k (upd f n v) 0 (n + 1)⟩
  keep : ∀ y, y < w.heap.size → ao.map (·.block) ≠ some y → w'.heap[y]? = w.heap[y]?
  new : ∀ y, ao'.map (·.block) = some y → ao.map (·.block) = some y ∨ w.heap.size ≤ y
  below : Below base w w'

theorem pushed {w w' : World} {base e : Nat} {k : IntKind} {ao ao' : Option Addr} {n cap cap' : Nat} {f : Nat → Int} {v : Int} (hown0 : Row.owned w base ⟨e, 1, ao, n, cap, segs k f 0 n⟩) (hbase : base ≤ w.heap.size) (x : Obj)
    (h1 : Row.owned w' base ⟨e, 1, ao', n + 1, cap', segs k f 0 n ++ [.int k v]⟩) (h2 : (w.alloc x).grownBy w' (Value.ownBlock (.slice ao n cap))) (h3 : ∀ y, Value.ownBlock (.slice ao' (n + 1) cap') = some y → Value.ownBlock (.slice ao n cap) = some y ∨ (w.alloc x).heap.size ≤ y) : Pushed w w' base e k ao ao' n cap' f v := by
  rw [segs_push] at h1
  rw [ownBlock_slice] at h2
  have hk : ∀ y, y < w.heap.size → ao.map (·.block) ≠ some y → w'.heap[y]? = w.heap[y]? := by
    intro y hy hne
    rw [h2.block y (by rw [World.size_alloc]; omega) (fun e => hne e.symm), Below.heap_alloc _ _ y hy]
  refine ⟨h1, hk, ?_, ⟨h2.os, h2.tape, h2.output, ?_, ?_⟩⟩
  · intro y hy
    rcases h3 y (by rw [ownBlock_slice]; exact hy) with h4 | h4
    · rw [ownBlock_slice] at h4
      exact Or.inl h4
    · rw [World.size_alloc] at h4
      exact Or.inr (by omega)
  · have := h2.size
    rw [World.size_alloc] at this
    omega
  · intro y hy
    exact hk y (by omega) (fun e => by have := (own_blk hown0 (x := y) e).1; omega)


theorem app32 (w0 : World) {ops : Array Oper} {rest : List Oper} {op : Oper} {a : Act} {Q : Exit → Act → World → Prop} (hgd : op.guard = none) (s x : Operand)
    (hop : op.op = .call { callee := .builtin .append, args := #[s, x], argTypes := #[28, 28] }) (base : Nat) (ao : Option Addr) (n cap : Nat) (f : Nat → Int) (v : Int)
    (hs : a.eval s = .slice ao n cap) (hown : Row.owned w0 base ⟨30, 1, ao, n, cap, segs .u32 f 0 n⟩) (hx : a.eval x = .slice (some ⟨w0.heap.size, 0, none⟩) 1 1) (hn : n ≤ 1048576) (hbase : base ≤ w0.heap.size)
    (h : ∀ ao' cap' w', Pushed w0 w' base 30 .u32 ao ao' n cap' f v → wpList Try.prog ops Q rest (a.put op.dst (.slice ao' (n + 1) cap')) w') :
    wpList Try.prog ops Q (op :: rest) a (w0.alloc (.cells #[.int .u32 v] 30)) := by
  obtain ⟨i3, hi3, hz30, hz31, hz32⟩ := info_parts Try.info30
  refine wpList_plain hgd fun K hK => ?_
  have hown' : Row.owned (w0.alloc (.cells #[.int .u32 v] 30)) base ⟨30, 1, ao, n, cap, segs .u32 f 0 n⟩ := World.ownsRow.alloc hown _
  obtain ⟨ao', cap', w', hr, h2, h3, h4⟩ := run_append_row (P := Try.prog) (w0.alloc (.cells #[.int .u32 v] 30)) base 28 op.type 30 i3 (.int .u32 0) 1 4 Try.underlying28 hi3 hz30 hz31 hz32 rfl ao n cap (segs .u32 f 0 n) hown' ⟨w0.heap.size, 0, none⟩ 1 1 [.int .u32 v] rfl (cell_one_new _ _ _) (ints_oneCell .u32 [v]) (Nat.lt_succ_self 0) (by unfold maxLen; omega) (by omega) (by rw [World.size_alloc]; omega)
  unfold Oper.wp execOp
  simp only [hop, resolve, invoke, builtin, Sem.run_bind, Sem.run_pure, Result.andThen_ok, List.map_toArray, List.map_cons, List.map_nil, hs, hx, hr]
  exact hK _ _ (h ao' cap' w' (pushed hown hbase _ h2 h3 h4))

theorem app64 (w0 : World) {ops : Array Oper} {rest : List Oper} {op : Oper} {a : Act} {Q : Exit → Act → World → Prop} (hgd : op.guard = none) (s x : Operand)
    (hop : op.op = .call { callee := .builtin .append, args := #[s, x], argTypes := #[29, 29] }) (base : Nat) (ao : Option Addr) (n cap : Nat) (f : Nat → Int) (v : Int)
    (hs : a.eval s = .slice ao n cap) (hown : Row.owned w0 base ⟨31, 1, ao, n, cap, segs .u64 f 0 n⟩) (hx : a.eval x = .slice (some ⟨w0.heap.size, 0, none⟩) 1 1) (hn : n ≤ 1048576) (hbase : base ≤ w0.heap.size)
    (h : ∀ ao' cap' w', Pushed w0 w' base 31 .u64 ao ao' n cap' f v → wpList Try.prog ops Q rest (a.put op.dst (.slice ao' (n + 1) cap')) w') :
    wpList Try.prog ops Q (op :: rest) a (w0.alloc (.cells #[.int .u64 v] 31)) := by
  obtain ⟨i3, hi3, hz30, hz31, hz32⟩ := info_parts Try.info31
  refine wpList_plain hgd fun K hK => ?_
  have hown' : Row.owned (w0.alloc (.cells #[.int .u64 v] 31)) base ⟨31, 1, ao, n, cap, segs .u64 f 0 n⟩ := World.ownsRow.alloc hown _
  obtain ⟨ao', cap', w', hr, h2, h3, h4⟩ := run_append_row (P := Try.prog) (w0.alloc (.cells #[.int .u64 v] 31)) base 29 op.type 31 i3 (.int .u64 0) 1 8 Try.underlying29 hi3 hz30 hz31 hz32 rfl ao n cap (segs .u64 f 0 n) hown' ⟨w0.heap.size, 0, none⟩ 1 1 [.int .u64 v] rfl (cell_one_new _ _ _) (ints_oneCell .u64 [v]) (Nat.lt_succ_self 0) (by unfold maxLen; omega) (by omega) (by rw [World.size_alloc]; omega)
  unfold Oper.wp execOp
  simp only [hop, resolve, invoke, builtin, Sem.run_bind, Sem.run_pure, Result.andThen_ok, List.map_toArray, List.map_cons, List.map_nil, hs, hx, hr]
  exact hK _ _ (h ao' cap' w' (pushed hown hbase _ h2 h3 h4))

/-- a block of steps -/
def H33 (w : World) (g : Nat) (cur : Array Value) : Prop := w.heap[g]? = some (.cells cur 33 (0, 0))

theorem H33.cell {w : World} {g : Nat} {cur : Array Value} (h : H33 w g cur) (j : Nat) : w.cell? ⟨g, j, none⟩ = cur[j]? := by
  unfold World.cell?
  rw [show w.heap[g]? = some (.cells cur 33 (0, 0)) from h]
  rfl
theorem H33.lt {w : World} {g : Nat} {cur : Array Value} (h : H33 w g cur) : g < w.heap.size := (Array.getElem?_eq_some_iff.1 h).1
theorem H33.step {w w' : World} {base B c N g : Nat} {cur : Array Value} {a b a' b' : D} (h : H33 w g cur) (hc : Cl w base B c N a b) (hst : CStep base B c a b a' b' w w') : H33 w' g cur := by
  refine (hst.rest g h.lt ?_ ?_ ?_).trans h
  · rintro rfl
    obtain ⟨cs, h1, _⟩ := hc.box
    rw [show w.heap[g]? = some (.cells cur 33 (0, 0)) from h] at h1
    simp at h1
  · intro hx
    obtain ⟨_, cur', t, h1, h2⟩ := hc.W.ck.kinds hx
    rw [show w.heap[g]? = some (.cells cur 33 (0, 0)) from h] at h1
    simp only [Option.some.injEq, Obj.cells.injEq] at h1
    rcases h2 with h2 | h2
    · exact absurd (h1.2.1.trans h2) (by decide)
    · exact absurd (h1.2.1.trans h2) (by decide)
  · intro hx
    obtain ⟨_, cur', t, h1, h2⟩ := hc.O.ck.kinds hx
    rw [show w.heap[g]? = some (.cells cur 33 (0, 0)) from h] at h1
    simp only [Option.some.injEq, Obj.cells.injEq] at h1
    rcases h2 with h2 | h2
    · exact absurd (h1.2.1.trans h2) (by decide)
    · exact absurd (h1.2.1.trans h2) (by decide)
theorem H33.ext {w w' : World} {g : Nat} {cur : Array Value} (h : H33 w g cur) (hb : Below w.heap.size w w') : H33 w' g cur := (hb.block g h.lt).trans h
theorem H33.push {w w' : World} {base g n cap cap' : Nat} {e : TypeId} {k : IntKind} {ao ao' : Option Addr} {f : Nat → Int} {v : Int} {cur : Array Value} (h : H33 w g cur) (hp : Pushed w w' base e k ao ao' n cap' f v) (hown : Row.owned w base ⟨e, 1, ao, n, cap, segs k f 0 n⟩) (he : e ≠ 33) : H33 w' g cur := by
  refine (hp.keep g h.lt ?_).trans h
  intro e1
  obtain ⟨_, _, cur', h1⟩ := own_blk hown (x := g) e1
  rw [show w.heap[g]? = some (.cells cur 33 (0, 0)) from h] at h1
  simp only [Option.some.injEq, Obj.cells.injEq] at h1
  exact he h1.2.1.symm

/-- the class and two rows, each of its own length -/
structure K2 (w : World) (base B c M n1 n2 cap1 cap2 : Nat) (ao1 ao2 : Option Addr) (os fs : Nat → Int) (a b : D) : Prop where
  cl : Cl w base B c M a b
  r1 : Row.owned w base ⟨30, 1, ao1, n1, cap1, segs .u32 os 0 n1⟩
  r2 : Row.owned w base ⟨31, 1, ao2, n2, cap2, segs .u64 fs 0 n2⟩
  o1 : Off ao1 a b
  o2 : Off ao2 a b

theorem Kept.k2 {w : World} {base B c m cap1 cap2 : Nat} {ao1 ao2 : Option Addr} {os fs : Nat → Int} {a b : D} (h : Kept w base B c m cap1 cap2 ao1 ao2 os fs a b) : K2 w base B c m m m cap1 cap2 ao1 ao2 os fs a b := ⟨h.cl, h.r1, h.r2, h.o1, h.o2⟩
theorem K2.kept {w : World} {base B c m cap1 cap2 : Nat} {ao1 ao2 : Option Addr} {os fs : Nat → Int} {a b : D} (h : K2 w base B c m m m cap1 cap2 ao1 ao2 os fs a b) (hM : Mod c m a b os fs) : Kept w base B c m cap1 cap2 ao1 ao2 os fs a b := ⟨h.cl, hM, h.r1, h.r2, h.o1, h.o2⟩

section
variable {w w' : World} {base B c M M' n1 n2 cap1 cap2 : Nat} {ao1 ao2 : Option Addr} {os fs : Nat → Int} {a b a' b' : D}

theorem K2.step (h : K2 w base B c M n1 n2 cap1 cap2 ao1 ao2 os fs a b) (hst : CStep base B c a b a' b' w w') (hcl : Cl w' base B c M' a' b') : K2 w' base B c M' n1 n2 cap1 cap2 ao1 ao2 os fs a' b' :=
  ⟨hcl, own_step h.r1 h.cl.box (show (30 : TypeId) ≠ 51 by decide) h.o1 hst, own_step h.r2 h.cl.box (show (31 : TypeId) ≠ 51 by decide) h.o2 hst, Off.step h.o1 h.r1 hst, Off.step h.o2 h.r2 hst⟩
theorem K2.ext (h : K2 w base B c M n1 n2 cap1 cap2 ao1 ao2 os fs a b) (hb : Below w.heap.size w w') : K2 w' base B c M n1 n2 cap1 cap2 ao1 ao2 os fs a b :=
  ⟨h.cl.keepGrown none (fun x hx _ => hb.block x hx) (fun e => by cases e) (fun x e => by cases e), own_keep h.r1 (fun x hx => hb.block x (own_blk h.r1 hx).2.1), own_keep h.r2 (fun x hx => hb.block x (own_blk h.r2 hx).2.1), h.o1, h.o2⟩
theorem K2.app1 {ao' : Option Addr} {cap' : Nat} {v : Int} (h : K2 w base B c M n1 n2 cap1 cap2 ao1 ao2 os fs a b) (hp : Pushed w w' base 30 .u32 ao1 ao' n1 cap' os v) : K2 w' base B c M (n1 + 1) n2 cap' cap2 ao' ao2 (upd os n1 v) fs a b := by
  refine ⟨h.cl.keepGrown (ao1.map (fun (z : Addr) => z.block)) (fun x hx hne => hp.keep x hx hne) (own_box h.r1 h.cl.box (show (30 : TypeId) ≠ 51 by decide)) h.o1, hp.own, own_keep h.r2 (fun x hx => hp.keep x (own_blk h.r2 hx).2.1 (own_ne h.r2 h.r1 (show (31 : TypeId) ≠ 30 by decide) hx)), ?_, h.o2⟩
  intro x hx hb
  rcases hp.new x hx with h1 | h1
  · exact h.o1 x h1 hb
  · have := h.cl.lt hb
    omega
theorem K2.app2 {ao' : Option Addr} {cap' : Nat} {v : Int} (h : K2 w base B c M n1 n2 cap1 cap2 ao1 ao2 os fs a b) (hp : Pushed w w' base 31 .u64 ao2 ao' n2 cap' fs v) : K2 w' base B c M n1 (n2 + 1) cap1 cap' ao1 ao' os (upd fs n2 v) a b := by
  refine ⟨h.cl.keepGrown (ao2.map (fun (z : Addr) => z.block)) (fun x hx hne => hp.keep x hx hne) (own_box h.r2 h.cl.box (show (31 : TypeId) ≠ 51 by decide)) h.o2, own_keep h.r1 (fun x hx => hp.keep x (own_blk h.r1 hx).2.1 (own_ne h.r1 h.r2 (show (30 : TypeId) ≠ 31 by decide) hx)), hp.own, h.o1, ?_⟩
  intro x hx hb
  rcases hp.new x hx with h1 | h1
  · exact h.o2 x h1 hb
  · have := h.cl.lt hb
    omega
end
end Go.Proofs.Qxb6603907a
