import Derived.Test.Qxb6603907aModel
import Derived.Lib.SliceRun
namespace Go.Proofs.Qxb6603907a
open Go.RowKit RowsKit Blocks

theorem Try.info33 : (Try.prog.info? 33).map (fun i => (i.zero, i.size, i.bytes)) = some (some (.agg #[.bool false, .int .u32 0, .int .u64 0]), 3, 16) := by kernel_rfl

/-- a row of three cells an element -/
def Ops3 (w : World) (b off n : Nat) (pu : Nat → Bool) (ar fi : Nat → Int) : Prop := ∀ i, i < n → w.cell? ⟨b, off + i * 3, none⟩ = some (.bool (pu i)) ∧ w.cell? ⟨b, off + i * 3 + 1, none⟩ = some (.int .u32 (ar i)) ∧ w.cell? ⟨b, off + i * 3 + 2, none⟩ = some (.int .u64 (fi i))

def OpsG (w : World) (g n : Nat) (pu : Nat → Bool) (ar fi : Nat → Int) : Prop := ∀ i, i < n → w.cell? ⟨g, i * 3, none⟩ = some (.bool (pu i)) ∧ w.cell? ⟨g, i * 3 + 1, none⟩ = some (.int .u32 (ar i)) ∧ w.cell? ⟨g, i * 3 + 2, none⟩ = some (.int .u64 (fi i))
def OpsB (w : World) (g n : Nat) : Prop := ∃ cur : Array Value, w.heap[g]? = some (.cells cur 33 (0, 0)) ∧ cur.size = n * 3

theorem OpsB.set {w : World} {g n : Nat} (h : OpsB w g n) (j : Nat) (v : Value) : OpsB (w.setCell ⟨g, j, none⟩ v) g n := by
  obtain ⟨cur, h1, h2⟩ := h
  refine ⟨cur.setIfInBounds j v, ?_, by simpa using h2⟩
  simp [World.setCell, Array.getElem?_modify, h1]
theorem OpsB.cell {w : World} {g n : Nat} (h : OpsB w g n) {j : Nat} (hj : j < n * 3) : ∃ v, w.cell? ⟨g, j, none⟩ = some v := by
  obtain ⟨cur, h1, h2⟩ := h
  unfold World.cell?
  rw [h1]
  have hj' : j < cur.size := by omega
  exact ⟨_, Array.getElem?_eq_getElem hj'⟩
theorem OpsB.thaw {w : World} {g n : Nat} (h : OpsB w g n) (j : Nat) : w.frozen? ⟨g, j, none⟩ = false := by
  obtain ⟨cur, h1, h2⟩ := h
  simp [World.frozen?, h1]

/-- one element is copied -/
theorem ops_put {w : World} {base g n t : Nat} {pu : Nat → Bool} {ar fi : Nat → Int} (hB : OpsB w g n) (hO : OpsG w g t pu ar fi) (ht : t < n) (hg : base ≤ g) :
    OpsG (((w.setCell ⟨g, t * 3, none⟩ (.bool (pu t))).setCell ⟨g, t * 3 + 1, none⟩ (.int .u32 (ar t))).setCell ⟨g, t * 3 + 2, none⟩ (.int .u64 (fi t))) g (t + 1) pu ar fi ∧
    OpsB (((w.setCell ⟨g, t * 3, none⟩ (.bool (pu t))).setCell ⟨g, t * 3 + 1, none⟩ (.int .u32 (ar t))).setCell ⟨g, t * 3 + 2, none⟩ (.int .u64 (fi t))) g n ∧
    Below base w (((w.setCell ⟨g, t * 3, none⟩ (.bool (pu t))).setCell ⟨g, t * 3 + 1, none⟩ (.int .u32 (ar t))).setCell ⟨g, t * 3 + 2, none⟩ (.int .u64 (fi t))) := by
  have b1 := hB.set (t * 3) (.bool (pu t))
  have b2 := b1.set (t * 3 + 1) (.int .u32 (ar t))
  refine ⟨?_, b2.set _ _, ((below_set _ _ _ hg).trans (below_set _ _ _ hg)).trans (below_set _ _ _ hg)⟩
  intro i hi
  obtain ⟨v0, e0⟩ := hB.cell (j := t * 3) (by omega)
  obtain ⟨v1, e1⟩ := b1.cell (j := t * 3 + 1) (by omega)
  obtain ⟨v2, e2⟩ := b2.cell (j := t * 3 + 2) (by omega)
  by_cases e : i = t
  · subst e
    refine ⟨?_, ?_, ?_⟩
    · rw [World.cell?_setCell_other _ _ _ _ (ne_off (by omega)), World.cell?_setCell_other _ _ _ _ (ne_off (by omega))]
      exact World.cell?_setCell_same _ _ _ e0
    · rw [World.cell?_setCell_other _ _ _ _ (ne_off (by omega))]
      exact World.cell?_setCell_same _ _ _ e1
    · exact World.cell?_setCell_same _ _ _ e2
  · obtain ⟨k0, k1, k2⟩ := hO i (by omega)
    refine ⟨?_, ?_, ?_⟩
    · rw [World.cell?_setCell_other _ _ _ _ (ne_off (by omega)), World.cell?_setCell_other _ _ _ _ (ne_off (by omega)), World.cell?_setCell_other _ _ _ _ (ne_off (by omega))]; exact k0
    · rw [World.cell?_setCell_other _ _ _ _ (ne_off (by omega)), World.cell?_setCell_other _ _ _ _ (ne_off (by omega)), World.cell?_setCell_other _ _ _ _ (ne_off (by omega))]; exact k1
    · rw [World.cell?_setCell_other _ _ _ _ (ne_off (by omega)), World.cell?_setCell_other _ _ _ _ (ne_off (by omega)), World.cell?_setCell_other _ _ _ _ (ne_off (by omega))]; exact k2

theorem run_make3 (n : Nat) (hn : n ≤ 1048576) (w : World) :
    (Instr.makeSlice 22 (.int .i64 (n : Int)) (.int .i64 (n : Int))).run Try.prog w = .ok (.slice (some ⟨w.heap.size, 0, none⟩) n n) (w.alloc (.cells (madeCells #[.bool false, .int .u32 0, .int .u64 0] (n * 3)) 33)) := by
  obtain ⟨i, hi, hz0, hz1, hz2⟩ := info_parts Try.info33
  have hr := run_make (P := Try.prog) w 22 33 i _ Try.underlying22 hi hz0 .i64 .i64 n n (by omega) (Int.le_refl _) (by rw [hz2]; omega) (by omega)
  simp only [Int.toNat_natCast, hz1] at hr
  exact hr

theorem q22 (w : World) (a : Option Addr) (n c n' c' : Nat) : (binOp .eql 22 (.slice a n c) (.slice none n' c')).run Try.prog w = .ok (.bool a.isNone) w := Lib.run_eql_slice_nil w _ _ a n c n' c' Try.underlying22
theorem ops_nil (w : World) : Calls Try.prog 6 #[.slice none 0 0] w fun e w' => e = .returned (.slice none 0 0) ∧ w' = w := by
  have q := q22
  go_enter Try.func6, Try.ntmps6
  go_wp2_with fail
  go_ret
  exact ⟨rfl, rfl⟩

set_option maxRecDepth 100000 in
theorem ops_some (w : World) (b off n cap : Nat) (pu : Nat → Bool) (ar fi : Nat → Int) (hn : n ≤ 1048576) (h : Hid (Ops3 w b off n pu ar fi)) (hb : Hid (0 < n → b < w.heap.size)) :
    Calls Try.prog 6 #[.slice (some ⟨b, off, none⟩) n cap] w fun e w' => e = .returned (.slice (some ⟨w.heap.size, 0, none⟩) n n) ∧ OpsG w' w.heap.size n pu ar fi ∧ OpsB w' w.heap.size n ∧ Below w.heap.size w w' := by
  have hmk := run_make3 n hn
  have q := q22
  go_enter Try.func6, Try.ntmps6
  go_wp2_with fail
  go_loopg [4] n (fun gk v4 wx => ∃ (t : Nat), v4 = .int .i64 t ∧ t ≤ n ∧ gk = n - t ∧ Hid (OpsG wx w.heap.size t pu ar fi ∧ OpsB wx w.heap.size n ∧ Below w.heap.size w wx))
  case atStart =>
    exact ⟨0, rfl, Nat.zero_le _, rfl, (fun i hi => absurd hi (Nat.not_lt_zero i)), ⟨_, heap_alloc_new w _, size_madeCells _ _⟩, ⟨rfl, rfl, rfl, by simp, fun x hx => Below.heap_alloc _ _ x hx⟩⟩
  case round =>
    obtain ⟨t, rfl, htn, rfl, HR⟩ := hrel
    by_cases ht : t < n
    · have hti : (t : Int) < (n : Int) := by omega
      have hm : n - (t + 1) < n - t := by omega
      have Hbn := hb.out (by omega)
      have hbl : b ≠ w.heap.size := by omega
      have c0 : wr.cell? ⟨b, off + t * 3, none⟩ = some (.bool (pu t)) := by
        rw [HR.out.2.2.cell Hbn]; exact (h.out t ht).1
      have c1 : wr.cell? ⟨b, off + t * 3 + 1, none⟩ = some (.int .u32 (ar t)) := by
        rw [HR.out.2.2.cell Hbn]; exact (h.out t ht).2.1
      have c2 : wr.cell? ⟨b, off + t * 3 + 2, none⟩ = some (.int .u64 (fi t)) := by
        rw [HR.out.2.2.cell Hbn]; exact (h.out t ht).2.2
      obtain ⟨o0, d0⟩ := HR.out.2.1.cell (j := t * 3) (by omega)
      obtain ⟨o1, d1⟩ := HR.out.2.1.cell (j := t * 3 + 1) (by omega)
      obtain ⟨o2, d2⟩ := HR.out.2.1.cell (j := t * 3 + 2) (by omega)
      have fz := HR.out.2.1.thaw
      go_wp2_with fail
      go_roundg (n - (t + 1))
      case measure => exact hm
      case rel =>
        have hp := ops_put HR.out.2.1 HR.out.1 ht (Nat.le_refl _)
        exact ⟨t + 1, by go_num, ht, rfl, hp.1, hp.2.1, HR.out.2.2.trans hp.2.2⟩
    · have hti : ¬ (t : Int) < (n : Int) := by omega
      have hte : t = n := by omega
      subst hte
      go_wp2_with fail
      go_ret
      exact ⟨rfl, HR.out.1, HR.out.2.1, HR.out.2.2⟩
end Go.Proofs.Qxb6603907a
