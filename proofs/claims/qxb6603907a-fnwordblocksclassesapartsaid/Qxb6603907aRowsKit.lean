/-
  SEVERAL SLICES THAT THE CALL ITSELF MAKES, TOGETHER: each owns a row, no two share a block.
-/
import Derived.WalkKit
import Derived.WalkSpells
import Derived.WalkLawsBesides
namespace RowsKit
open Go Go.RowKit

/-- one slice of the call's own: its element type, the element's cells, its address, length, capacity, and what its cells hold -/
structure Row where
  e : TypeId
  size : Nat
  ao : Option Addr
  n : Nat
  cap : Nat
  xs : List Value

def Row.v (r : Row) : Value := .slice r.ao r.n r.cap
def Row.owned (w : World) (base : Nat) (r : Row) : Prop := w.ownsRow base r.e r.size (.slice r.ao r.n r.cap) r.n r.xs
def Row.apart (r s : Row) : Prop := ∀ k, r.v.ownBlock = some k → s.v.ownBlock ≠ some k

structure Inv (w : World) (base : Nat) (rs : List Row) : Prop where
  own : ∀ r ∈ rs, r.owned w base
  apart : rs.Pairwise Row.apart

def nilRow (e : TypeId) (size : Nat) : Row := ⟨e, size, none, 0, 0, []⟩
theorem nilRow_owned (w : World) (base : Nat) (e : TypeId) (size : Nat) : (nilRow e size).owned w base := World.ownsRow_nil _ _ _ _
theorem nilRow_apart (e : TypeId) (size : Nat) (s : Row) : (nilRow e size).apart s := by intro k hk; simp [nilRow, Row.v, Value.ownBlock] at hk

theorem inv_nils (w : World) (base : Nat) (l : List (TypeId × Nat)) : Inv w base (l.map fun p => nilRow p.1 p.2) := by
  refine ⟨?_, ?_⟩
  · intro r hr
    obtain ⟨p, _, rfl⟩ := List.mem_map.1 hr
    exact nilRow_owned _ _ _ _
  · rw [List.pairwise_map]
    induction l with
    | nil => exact List.Pairwise.nil
    | cons p l ih => exact List.Pairwise.cons (fun _ _ => nilRow_apart _ _ _) ih

theorem grown_of_below {w w' : World} (h : Below w.heap.size w w') (row : Option Nat) : w.grownBy w' row := ⟨h.os, h.tape, h.output, h.size, fun k hk _ => h.block k hk⟩

theorem Inv.keep {w w' : World} {base : Nat} {rs : List Row} (h : Inv w base rs) (hb : Below w.heap.size w w') : Inv w' base rs :=
  ⟨fun r hr => (h.own r hr).kept (grown_of_below hb none) (by cases hk : (Value.slice r.ao r.n r.cap).ownBlock with | none => exact Or.inl rfl | some k => exact Or.inr (by simp)), h.apart⟩

theorem Inv.alloc {w : World} {base : Nat} {rs : List Row} (h : Inv w base rs) (o : Obj) : Inv (w.alloc o) base rs :=
  h.keep ((Below.refl _ _).alloc (Nat.le_refl _) o)

/-- one row is written anew, or moved to a block that was not there -/
theorem Inv.swap {w w' : World} {base : Nat} {A B : List Row} {r r' : Row} (h : Inv w base (A ++ r :: B)) (hown : r'.owned w' base) (hg : w.grownBy w' r.v.ownBlock)
    (hnew : ∀ k, r'.v.ownBlock = some k → r.v.ownBlock = some k ∨ w.heap.size ≤ k) : Inv w' base (A ++ r' :: B) := by
  have hp := List.pairwise_append.1 h.apart
  have hp2 := List.pairwise_cons.1 hp.2.1
  have hA : ∀ s ∈ A, s.apart r := fun s hs => hp.2.2 s hs r List.mem_cons_self
  have hB : ∀ s ∈ B, r.apart s := hp2.1
  have lt : ∀ s ∈ A ++ r :: B, ∀ k, s.v.ownBlock = some k → k < w.heap.size := fun s hs k hk => ((h.own s hs).lt k hk).2
  have memA : ∀ s ∈ A, s ∈ A ++ r :: B := fun s hs => List.mem_append_left _ hs
  have memB : ∀ s ∈ B, s ∈ A ++ r :: B := fun s hs => List.mem_append_right _ (List.mem_cons_of_mem _ hs)
  refine ⟨?_, ?_⟩
  · intro s hs
    rcases List.mem_append.1 hs with hs | hs
    · refine (h.own s (memA s hs)).kept hg ?_
      cases hk : s.v.ownBlock with
      | none => exact Or.inl hk
      | some k => refine Or.inr ?_; rw [show (Value.slice s.ao s.n s.cap).ownBlock = some k from hk]; exact fun e => hA s hs k hk e.symm
    · cases hs with
      | head => exact hown
      | tail _ hs =>
        refine (h.own s (memB s hs)).kept hg ?_
        cases hk : s.v.ownBlock with
        | none => exact Or.inl hk
        | some k => refine Or.inr ?_; rw [show (Value.slice s.ao s.n s.cap).ownBlock = some k from hk]; exact fun e => hB s hs k e.symm hk
  · rw [List.pairwise_append, List.pairwise_cons]
    refine ⟨hp.1, ⟨?_, hp2.2⟩, ?_⟩
    · intro s hs k hk hk'
      rcases hnew k hk with h1 | h1
      · exact hB s hs k h1 hk'
      · have := lt s (memB s hs) k hk'; omega
    · intro a ha b hb
      cases hb with
      | head =>
        intro k hk hk'
        rcases hnew k hk' with h1 | h1
        · exact hA a ha k hk h1
        · have := lt a (memA a ha) k hk; omega
      | tail _ hb => exact hp.2.2 a ha b (List.mem_cons_of_mem _ hb)

theorem Inv.at {w : World} {base : Nat} {A B : List Row} {r : Row} (h : Inv w base (A ++ r :: B)) : r.owned w base := h.own r (List.mem_append_right _ List.mem_cons_self)

/-- a row with an element has an address -/
theorem owned_addr {w : World} {base : Nat} {r : Row} (h : r.owned w base) (hn : 0 < r.n) : ∃ g, r.ao = some ⟨g, 0, none⟩ ∧ base ≤ g ∧ g < w.heap.size := by
  rcases h.2 with ⟨h1, h2⟩ | ⟨g, cap, cur, h1, h2, h3, _⟩
  · omega
  · simp only [Value.slice.injEq] at h1
    exact ⟨g, h1.1, h2, (Array.getElem?_eq_some_iff.1 h3).1⟩

/-- what lies at place j of an owned row -/
theorem owned_cell {w : World} {base e size g n cap : Nat} {xs : List Value} (h : Row.owned w base ⟨e, size, some ⟨g, 0, none⟩, n, cap, xs⟩) (j : Nat) (hj : j < n * size) : w.cell? ⟨g, j, none⟩ = xs[j]? :=
  World.ownsRow.cellAt h j hj
theorem owned_frozen {w : World} {base e size g n cap : Nat} {xs : List Value} (h : Row.owned w base ⟨e, size, some ⟨g, 0, none⟩, n, cap, xs⟩) (j : Nat) : w.frozen? ⟨g, j, none⟩ = false :=
  World.ownsRow.frozenAt h j

/-- a store into an element -/
theorem Inv.store {w : World} {base e size g n cap : Nat} {xs : List Value} {A B : List Row} (h : Inv w base (A ++ ⟨e, size, some ⟨g, 0, none⟩, n, cap, xs⟩ :: B)) (j : Nat) (u : Value) :
    Inv (w.setCell ⟨g, j, none⟩ u) base (A ++ ⟨e, size, some ⟨g, 0, none⟩, n, cap, xs.set j u⟩ :: B) :=
  h.swap (World.ownsRow.stored h.at j u).1 (World.ownsRow.stored h.at j u).2 (fun _ hk => Or.inl hk)

/-- a row cut at its end -/
theorem Inv.cut {w : World} {base e size n cap : Nat} {ao : Option Addr} {xs : List Value} {A B : List Row} (h : Inv w base (A ++ ⟨e, size, ao, n, cap, xs⟩ :: B)) (m : Nat) (hm : m ≤ n) :
    Inv w base (A ++ ⟨e, size, ao, m, cap, xs.take (m * size)⟩ :: B) := by
  refine h.swap ?_ (grown_of_below (Below.refl _ _) _) (fun k hk => Or.inl ?_)
  · have h0 := h.at
    have hl : xs.length = n * size := h0.1
    refine ⟨?_, ?_⟩
    · show (xs.take (m * size)).length = m * size
      rw [List.length_take, hl, Nat.min_eq_left (Nat.mul_le_mul_right _ hm)]
    · rcases h0.2 with ⟨h1, h2⟩ | ⟨g, cap', cur, h1, h2, h3, h4, h5, h6, h7⟩
      · simp only [Value.slice.injEq] at h1
        obtain ⟨rfl, _, rfl⟩ := h1
        have hn : n = 0 := h2
        have : m = 0 := by omega
        subst this
        exact Or.inl ⟨rfl, rfl⟩
      · simp only [Value.slice.injEq, true_and] at h1
        obtain ⟨rfl, rfl⟩ := h1
        refine Or.inr ⟨g, cap, cur, rfl, h2, h3, ?_, h5, h6, ?_⟩
        · have : n ≤ cap := h4
          show m ≤ cap
          omega
        · show cur.toList.take (m * size) = xs.take (m * size)
          have h8 : cur.toList.take (n * size) = xs := h7
          rw [← h8, List.take_take, Nat.min_eq_left (Nat.mul_le_mul_right _ hm)]
  · cases ao with
    | none => exact hk
    | some a => exact hk

/-- 'append' onto an owned row: it may grow; the block it then lies in is its own or a new one -/
theorem run_append_row {P : Program} (w : World) (base : Nat) (t ty e : TypeId) (i : TypeInfo) (z : Value) (size bytes : Nat) (ht : P.underlying t = some (.slice e)) (hi : P.info? e = some i) (hz : i.zero = some z)
    (hsize : i.size = size) (hby : i.bytes = bytes) (hzs : z.cells.size = size) (ao : Option Addr) (n cap : Nat) (xs : List Value) (hown : Row.owned w base ⟨e, size, ao, n, cap, xs⟩)
    (a : Addr) (m c : Nat) (news : List Value) (hl : news.length = m * size) (hnews : ∀ j u, news[j]? = some u → w.cell? (a.add j) = some u) (h1 : ∀ u ∈ news, u.oneCell' = true) (hm : 0 < m)
    (h63 : n + m ≤ maxLen) (hbytes : (n + m) * bytes ≤ 140737488355328) (hbase : base ≤ w.heap.size) :
    ∃ ao' cap' w', (Builtin.append_ #[t, t] ty #[.slice ao n cap, .slice (some a) m c]).run P w = .ok (.slice ao' (n + m) cap') w' ∧ Row.owned w' base ⟨e, size, ao', n + m, cap', xs ++ news⟩ ∧
      w.grownBy w' (Value.ownBlock (.slice ao n cap)) ∧ (∀ k, Value.ownBlock (.slice ao' (n + m) cap') = some k → Value.ownBlock (.slice ao n cap) = some k ∨ w.heap.size ≤ k) := by
  subst hsize
  subst hby
  have hsmall : n + m ≤ 9223372036854775807 := by simp only [maxLen] at h63; omega
  have hxl : xs.length = n * i.size := hown.1
  have hlen : (xs ++ news).length = (n + m) * i.size := by rw [List.length_append, hxl, hl, Nat.add_mul]
  have grown : ∀ (old : Nat), old < n + m → ∀ (row : Option Nat),
      (w.drew.alloc (.cells (xs.toArray ++ news.toArray ++ Builtin.zeroCells z.cells (grownCap w (n + m) old e - (n + m))) e)).ownsRow base e i.size
        (.slice (some ⟨w.heap.size, 0, none⟩) (n + m) (grownCap w (n + m) old e)) (n + m) (xs ++ news) ∧
      w.grownBy (w.drew.alloc (.cells (xs.toArray ++ news.toArray ++ Builtin.zeroCells z.cells (grownCap w (n + m) old e - (n + m))) e)) row := by
    intro old ho row
    have hge := grownCap_ge w (n + m) old e
    have hcm : grownCap w (n + m) old e ≤ maxLen := grownCap_le_maxLen w (n + m) old e h63
    refine ⟨⟨hlen, .inr ⟨w.heap.size, _, _, rfl, hbase, heap_alloc_new w.drew _, hge, hcm, ?_, ?_⟩⟩, ⟨rfl, rfl, rfl, by simp, fun k hk _ => Below.heap_alloc w.drew _ k hk⟩⟩
    · simp only [Array.size_append, List.size_toArray, size_zeroCells, hzs, hxl, hl, ← Nat.add_mul]
      congr 1
      omega
    · simp only [Array.toList_append, List.append_assoc]
      rw [← List.append_assoc, ← hlen]
      exact List.take_left
  rcases hown.2 with ⟨hv, hn0⟩ | ⟨g, cap', cur, hv, hbg, hg, hnc, hcm, hcs, htake⟩
  · simp only [Value.slice.injEq] at hv
    obtain ⟨rfl, rfl, rfl⟩ := hv
    have hx : xs = [] := List.eq_nil_of_length_eq_zero (by simpa using hxl)
    subst hx
    have hr := run_append_nil (P := P) w t ty e i z ht hi hz a m c news hl hnews hm (by omega) (by have hb := hbytes; simp only [Nat.zero_add] at hb; omega)
    have hgr := grown 0 (by omega) (Value.ownBlock (.slice none 0 0))
    simp only [Nat.zero_add, List.nil_append, Array.empty_append] at hgr ⊢
    exact ⟨_, _, _, hr, hgr.1, hgr.2, by intro k hk; simp [Value.ownBlock] at hk; subst hk; exact Or.inr (Nat.le_refl _)⟩
  · simp only [Value.slice.injEq, true_and] at hv
    obtain ⟨rfl, rfl⟩ := hv
    have hg' : w.heap[g]? = some (.cells cur e (0, 0)) := hg
    have hnc' : n ≤ cap := hnc
    have hcs' : cur.size = cap * i.size := hcs
    have htk : cur.toList.take (n * i.size) = xs := htake
    by_cases hroom : n + m ≤ cap
    · have hfit : n * i.size + news.length ≤ cur.size := by rw [hl, hcs', ← Nat.add_mul]; exact Nat.mul_le_mul_right _ hroom
      have hr := run_append_room (P := P) w t ty e i ht hi g n cap cur hg' a m c news hl hnews h1 hroom hfit
      refine ⟨_, _, _, hr, ⟨hlen, .inr ⟨g, cap, _, rfl, hbg, setRow_heap w g cur _ e _ hg', hroom, hcm, ?_, ?_⟩⟩, ⟨rfl, rfl, rfl, by simp, fun k _ hk => setRow_other w g k _ (fun e => hk (by simp [Value.ownBlock, e]))⟩, fun k hk => Or.inl (by simpa [Value.ownBlock] using hk)⟩
      · simp only [List.size_toArray, List.length_append, List.length_take, List.length_drop, Array.length_toList]
        omega
      · show (List.toArray _).toList.take ((n + m) * i.size) = xs ++ news
        rw [htk, ← hlen]
        exact List.take_left
    · have holds : ∀ j u, xs[j]? = some u → w.cell? ((⟨g, 0, none⟩ : Addr).add j) = some u := World.ownsRow.cells hown (g := g) rfl
      have hr := run_append_grow (P := P) w t ty e i z ht hi hz ⟨g, 0, none⟩ n cap xs hxl holds a m c news hl hnews (by omega) (by omega) (growslice_fits (by omega) hbytes)
      have hgr := grown cap (by omega) (Value.ownBlock (.slice (some ⟨g, 0, none⟩) n cap))
      exact ⟨_, _, _, hr, hgr.1, hgr.2, by intro k hk; simp [Value.ownBlock] at hk; subst hk; exact Or.inr (Nat.le_refl _)⟩

/-- the walk's form of it: all rows are carried over -/
theorem wpList_append_row {P : Program} (w : World) {ops : Array Oper} {rest : List Oper} {o : Oper} {a : Act} {Q : Exit → Act → World → Prop} (hgd : o.guard = none) (s x : Operand) (t : TypeId)
    (ho : o.op = .call { callee := .builtin .append, args := #[s, x], argTypes := #[t, t] })
    (base : Nat) (e : TypeId) (i : TypeInfo) (z : Value) (size bytes : Nat) (ht : P.underlying t = some (.slice e)) (hi : P.info? e = some i) (hz : i.zero = some z)
    (hsize : i.size = size) (hby : i.bytes = bytes) (hzs : z.cells.size = size)
    (ao : Option Addr) (n cap : Nat) (xs : List Value) (A B : List Row) (hs : a.eval s = .slice ao n cap) (hinv : Inv w base (A ++ ⟨e, size, ao, n, cap, xs⟩ :: B))
    (ad : Addr) (m c : Nat) (news : List Value) (hx : a.eval x = .slice (some ad) m c) (hl : news.length = m * size) (hnews : ∀ j u, news[j]? = some u → w.cell? (ad.add j) = some u) (h1 : ∀ u ∈ news, u.oneCell' = true) (hm : 0 < m)
    (h63 : n + m ≤ maxLen) (hbytes : (n + m) * bytes ≤ 140737488355328) (hbase : base ≤ w.heap.size)
    (h : ∀ ao' cap' w', Inv w' base (A ++ ⟨e, size, ao', n + m, cap', xs ++ news⟩ :: B) → Below base w w' → wpList P ops Q rest (a.put o.dst (.slice ao' (n + m) cap')) w') : wpList P ops Q (o :: rest) a w := by
  refine wpList_plain hgd fun K hK => ?_
  obtain ⟨ao', cap', w', hr, h2, h3, h4⟩ := run_append_row (P := P) w base t o.type e i z size bytes ht hi hz hsize hby hzs ao n cap xs hinv.at ad m c news hl hnews h1 hm h63 hbytes hbase
  unfold Oper.wp execOp
  simp only [ho, resolve, invoke, builtin, Sem.run_bind, Sem.run_pure, Result.andThen_ok, List.map_toArray, List.map_cons, List.map_nil, hs, hx, hr]
  refine hK _ _ (h ao' cap' w' (hinv.swap h2 h3 h4) ?_)
  exact (Below.refl _ _).grown h3 hbase (fun k hk => ((hinv.at).lt k hk).1)

end RowsKit
