import Derived.Test.Qxb6603907aGrow
namespace Go.Proofs.Qxb6603907a
open Go.RowKit RowsKit

theorem Try.info28 : (Try.prog.info? 28).map (fun i => (i.zero, i.size, i.bytes)) = some (some (.slice none 0 0), 1, 24) := by kernel_rfl
theorem Try.info30 : (Try.prog.info? 30).map (fun i => (i.zero, i.size, i.bytes)) = some (some (.int .u32 0), 1, 4) := by kernel_rfl

set_option maxRecDepth 100000 in
theorem grow32_keep (w : World) (B off s m cap q L n C : Nat) (ao : Option Addr) (hC : Hid (C = 2 ^ s)) (hs : s ≤ 20) (hL : L ≤ 2097152) (hn : n ≤ 1048576) (hq : Hid (L / C = q)) (hqm : q ≠ m)
    (h0 : w.cell? ⟨B, off, none⟩ = some (.int .u8 s)) (h1 : w.cell? ⟨B, off + 1, none⟩ = some (.slice ao m cap)) (h2 : w.cell? ⟨B, off + 2, none⟩ = some (.int .i64 L)) (hf : w.frozen? ⟨B, off + 2, none⟩ = false) :
    Calls Try.prog 22 #[.pointer (some ⟨B, off, none⟩), .int .i64 n] w fun e w' => e = .returned (.int .i64 L) ∧ ∃ k, w' = (w.drewN k).setCell ⟨B, off + 2, none⟩ (.int .i64 ((L + n : Nat) : Int)) := by
  have hs0 : (0 : Int) ≤ (s : Int) := by omega
  have hs1 : (s : Int) ≤ 64 := by omega
  have hshr : (L : Int) / 2 ^ s = (q : Int) := by rw [shr_div _ s C hC.out, hq.out]
  have hne : ((q : Int) == (m : Int)) = false := by rw [beq_eq_false_iff_ne]; omega
  have hwr : IntKind.i64.wrap ((L : Int) + (n : Int)) = (L : Int) + (n : Int) := IntWalk.i64_in _ ⟨by omega, by omega⟩
  go_enter Try.func22, Try.ntmps22
  go_wp2_with fail
  go_quiet (fail)
  go_wp2_with fail
  go_ret
  exact ⟨rfl, _, rfl⟩

set_option maxRecDepth 100000 in
theorem grow32_more (w : World) (base B off s m cap L n C : Nat) (ao : Option Addr) (xs : List Value) (hC : Hid (C = 2 ^ s)) (hs : s ≤ 20) (hL : L ≤ 2097152) (hn : n ≤ 1048576) (hm : m ≤ 2097152) (hq : Hid (L / C = m)) (hBs : B < w.heap.size) (hbase : base ≤ w.heap.size)
    (h0 : w.cell? ⟨B, off, none⟩ = some (.int .u8 s)) (h1 : w.cell? ⟨B, off + 1, none⟩ = some (.slice ao m cap)) (h2 : w.cell? ⟨B, off + 2, none⟩ = some (.int .i64 L)) (hf : ∀ o, w.frozen? ⟨B, o, none⟩ = false)
    (hown : Hid (Row.owned w base ⟨28, 1, ao, m, cap, xs⟩)) (hne : Value.ownBlock (.slice ao m cap) ≠ some B) :
    Calls Try.prog 22 #[.pointer (some ⟨B, off, none⟩), .int .i64 n] w fun e w' => e = .returned (.int .i64 L) ∧ ∃ ao' cap' w2,
      Row.owned w2 base ⟨28, 1, ao', m + 1, cap', xs ++ [.slice (some ⟨w.heap.size, 0, none⟩) C C]⟩ ∧ ((w.alloc (.cells (madeCells #[.int .u32 0] C) 30)).alloc (.cells #[.slice (some ⟨w.heap.size, 0, none⟩) C C] 28)).grownBy w2 (Value.ownBlock (.slice ao m cap)) ∧
      (∀ k, Value.ownBlock (.slice ao' (m + 1) cap') = some k → Value.ownBlock (.slice ao m cap) = some k ∨ w.heap.size + 2 ≤ k) ∧
      w' = (w2.setCell ⟨B, off + 1, none⟩ (.slice ao' (m + 1) cap')).setCell ⟨B, off + 2, none⟩ (.int .i64 ((L + n : Nat) : Int)) := by
  obtain ⟨i28, hi28, hz0, hz1, hz2⟩ := info_parts Try.info28
  have hCle : C ≤ 1048576 := by rw [hC.out]; exact pow_le s hs
  have hs0 : (0 : Int) ≤ (s : Int) := by omega
  have hs1 : (s : Int) ≤ 64 := by omega
  have hwr : IntKind.i64.wrap ((L : Int) + (n : Int)) = (L : Int) + (n : Int) := IntWalk.i64_in _ ⟨by omega, by omega⟩
  have hb1 : 4 * C ≤ 281474976710656 := by omega
  have hb2 : C ≤ 9223372036854775807 := by omega
  have hmk := run_make_row' (P := Try.prog) 28 30 (.int .u32 0) 4 Try.underlying28 Try.info30 rfl .i64 .i64 C hb1 hb2
  have Hown2 : Hid (Row.owned ((w.alloc (.cells (madeCells #[.int .u32 0] C) 30)).alloc (.cells #[.slice (some ⟨w.heap.size, 0, none⟩) C C] 28)) base ⟨28, 1, ao, m, cap, xs⟩) := World.ownsRow.alloc (World.ownsRow.alloc hown.out _) _
  have Hnews : Hid (∀ j u, [Value.slice (some ⟨w.heap.size, 0, none⟩) C C][j]? = some u → ((w.alloc (.cells (madeCells #[.int .u32 0] C) 30)).alloc (.cells #[.slice (some ⟨w.heap.size, 0, none⟩) C C] 28)).cell? ((⟨w.heap.size + 1, 0, none⟩ : Addr).add j) = some u) := by
    have h5 := cell_one_new (w.alloc (.cells (madeCells #[.int .u32 0] C) 30)) (.slice (some ⟨w.heap.size, 0, none⟩) C C) 28
    rw [World.size_alloc] at h5
    exact h5
  have Hone : Hid (∀ u ∈ [Value.slice (some ⟨w.heap.size, 0, none⟩) C C], u.oneCell' = true) := by
    intro u hu
    simp only [List.mem_singleton] at hu
    subst hu
    rfl
  have hlen : m + 1 ≤ maxLen := by unfold maxLen; omega
  have hbytes : (m + 1) * 24 ≤ 140737488355328 := by omega
  have hbase2 : base ≤ ((w.alloc (.cells (madeCells #[.int .u32 0] C) 30)).alloc (.cells #[.slice (some ⟨w.heap.size, 0, none⟩) C C] 28)).heap.size := by simp; omega
  have ca1 : ∀ (k : Nat) (x : Obj), ((w.drewN k).alloc x).cell? ⟨B, off + 1, none⟩ = some (.slice ao m cap) := fun k x => (World.cell?_alloc_lt _ _ _ hBs).trans h1
  have ca2 : ∀ (k : Nat) (x y : Obj), (((w.drewN k).alloc x).alloc y).cell? ⟨B, off + 1, none⟩ = some (.slice ao m cap) := fun k x y => (World.cell?_alloc_lt _ _ _ (by show B < ((w.drewN k).alloc x).heap.size; rw [World.size_alloc]; exact Nat.lt_succ_of_lt hBs)).trans (ca1 k x)
  have hBne : B ≠ w.heap.size := by omega
  have hBne1 : B ≠ w.heap.size + 1 := by omega
  have hw2 := wrapk_pow s C hC.out hs
  have hw1 := wrap_pow s C hC.out hs
  have hshr : (L : Int) / 2 ^ s = (m : Int) := by rw [shr_div _ s C hC.out, hq.out]
  clear hb1 hb2
  go_enter Try.func22, Try.ntmps22
  go_wp2_with fail
  go_quiet (fail)
  go_wp2_with fail
  go_region_law (refine step_append_row rfl (.tmp 26) (.tmp 33) 44 rfl base 28 i28 (.slice none 0 0) 1 24 Try.underlying44 hi28 hz0 hz1 hz2 rfl ao m cap xs (by simp [Act.eval]) (by exact Hown2.out) ⟨w.heap.size + 1, 0, none⟩ 1 1 [.slice (some ⟨w.heap.size, 0, none⟩) C C] (by simp [Act.eval]) rfl (by exact Hnews.out) Hone.out (by decide) hlen hbytes (by exact hbase2) ?_; intro ao' cap' w2 hw2 hg2 hn2; have hg3 : ((w.alloc (.cells (madeCells #[.int .u32 0] C) 30)).alloc (.cells #[.slice (some ⟨w.heap.size, 0, none⟩) C C] 28)).grownBy w2 (Value.ownBlock (.slice ao m cap)) := ⟨hg2.os, hg2.tape, hg2.output, hg2.size, hg2.block⟩; have hB2 := grow_after hg3 hBs hne; have Hres : Hid (Row.owned w2 base ⟨28, 1, ao', m + 1, cap', xs ++ [.slice (some ⟨w.heap.size, 0, none⟩) C C]⟩ ∧ ((w.alloc (.cells (madeCells #[.int .u32 0] C) 30)).alloc (.cells #[.slice (some ⟨w.heap.size, 0, none⟩) C C] 28)).grownBy w2 (Value.ownBlock (.slice ao m cap)) ∧ (∀ k, Value.ownBlock (.slice ao' (m + 1) cap') = some k → Value.ownBlock (.slice ao m cap) = some k ∨ w.heap.size + 2 ≤ k)) := ⟨hw2, hg3, fun k hk => (hn2 k hk).imp id (fun h => by simpa using h)⟩; clear hw2 hg2 hn2 hg3; have c1 : w2.cell? ⟨B, off + 1, none⟩ = some (.slice ao m cap) := (cell_eq hB2 _).trans h1; have c2 : w2.cell? ⟨B, off + 2, none⟩ = some (.int .i64 L) := (cell_eq hB2 _).trans h2; have c3 : ∀ o, w2.frozen? ⟨B, o, none⟩ = false := fun o => (frozen_eq hB2 _).trans (hf o); clear hB2)
  all_goals
    go_wp2_with fail
    go_ret
    exact ⟨rfl, ao', cap', w2, Hres.out.1, Hres.out.2.1, Hres.out.2.2, rfl⟩
end Go.Proofs.Qxb6603907a
