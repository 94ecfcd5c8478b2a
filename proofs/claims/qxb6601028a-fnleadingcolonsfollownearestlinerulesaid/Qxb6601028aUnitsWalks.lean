import Derived.Test.Qxb6601028aProg
import Derived.Test.Qxb6601028aColonsPlain
import Derived.Test.Qxb6601028aRowsKit
import Derived.Deep.DeepCutAuto
import Derived.Deep.Light
namespace Go.Proofs.Qxb6601028a.Units
open Go.RowKit RowsKit

/-- the bytes of a slice of the call's own -/
def Src (w : World) (g n : Nat) (B : Nat → Int) : Prop := ∀ k, k < n → w.cell? ⟨g, k, none⟩ = some (.int .u8 (B k))

def asc (n wd hi : Nat) (B : Nat → Int) (i : Nat) : Int := if n < i + wd then 0 else if wd = 1 then B i else if B (i + hi) ≠ 0 then 128 else B (i + 1 - hi)

theorem ret_u8 {a b : Int} (h : a = b) : Ending.returned (.int .u8 a) = .returned (.int .u8 b) := by rw [h]

theorem below1 {w : World} (o : Obj) : Below w.heap.size w (w.alloc o) := (Below.refl _ _).alloc (Nat.le_refl _) o

set_option maxHeartbeats 400000 in
theorem ascii_past (g n st wd hi i : Nat) (w : World) (hn : n ≤ 4294967296) (hi1 : i ≤ 4294967296) (hw : wd ≤ 2) (h : n < i + wd) :
    Calls Try.prog 43 #[.agg #[.slice (some ⟨g, 0, none⟩) n n, .int .i64 st, .int .i64 wd, .int .i64 hi], .int .i64 i] w fun e w' => e = .returned (.int .u8 0) ∧ Below w.heap.size w w' := by
  go_enter Try.func43, Try.ntmps43
  go_wp2
  go_ret
  exact ⟨rfl, below1 _⟩

set_option maxHeartbeats 400000 in
theorem ascii_one (g n st hi i : Nat) (B : Nat → Int) (w : World) (hn : n ≤ 4294967296) (h : i < n) (hc : w.cell? ⟨g, i, none⟩ = some (.int .u8 (B i))) :
    Calls Try.prog 43 #[.agg #[.slice (some ⟨g, 0, none⟩) n n, .int .i64 st, .int .i64 1, .int .i64 hi], .int .i64 i] w fun e w' => e = .returned (.int .u8 (B i)) ∧ Below w.heap.size w w' := by
  have hg : g < w.heap.size := World.block_lt_of_cell? w ⟨g, i, none⟩ hc
  go_enter Try.func43, Try.ntmps43
  go_wp2
  go_ret
  exact ⟨rfl, below1 _⟩


set_option maxHeartbeats 400000 in
theorem ascii_le (g n st i : Nat) (B : Nat → Int) (w : World) (hn : n ≤ 4294967296) (h : i + 2 ≤ n) (hc0 : w.cell? ⟨g, i, none⟩ = some (.int .u8 (B i))) (hc1 : w.cell? ⟨g, i + 1, none⟩ = some (.int .u8 (B (i + 1)))) :
    Calls Try.prog 43 #[.agg #[.slice (some ⟨g, 0, none⟩) n n, .int .i64 st, .int .i64 2, .int .i64 1], .int .i64 i] w fun e w' => e = .returned (.int .u8 (if B (i + 1) ≠ 0 then 128 else B i)) ∧ Below w.heap.size w w' := by
  have hg : g < w.heap.size := World.block_lt_of_cell? w ⟨g, i, none⟩ hc0
  by_cases hb : B (i + 1) = 0
  · have hb' : (B (i + 1) == 0) = true := by simp [hb]
    rw [if_neg (by simp [hb])]
    go_enter Try.func43, Try.ntmps43
    go_wp2
    go_ret
    exact ⟨rfl, below1 _⟩
  · have hb' : (B (i + 1) == 0) = false := by simp [hb]
    rw [if_pos (by simp [hb])]
    go_enter Try.func43, Try.ntmps43
    go_wp2
    go_ret
    exact ⟨rfl, below1 _⟩

set_option maxHeartbeats 400000 in
theorem ascii_be (g n st i : Nat) (B : Nat → Int) (w : World) (hn : n ≤ 4294967296) (h : i + 2 ≤ n) (hc0 : w.cell? ⟨g, i, none⟩ = some (.int .u8 (B i))) (hc1 : w.cell? ⟨g, i + 1, none⟩ = some (.int .u8 (B (i + 1)))) :
    Calls Try.prog 43 #[.agg #[.slice (some ⟨g, 0, none⟩) n n, .int .i64 st, .int .i64 2, .int .i64 0], .int .i64 i] w fun e w' => e = .returned (.int .u8 (if B i ≠ 0 then 128 else B (i + 1))) ∧ Below w.heap.size w w' := by
  have hg : g < w.heap.size := World.block_lt_of_cell? w ⟨g, i, none⟩ hc0
  by_cases hb : B i = 0
  · have hb' : (B i == 0) = true := by simp [hb]
    rw [if_neg (by simp [hb])]
    go_enter Try.func43, Try.ntmps43
    go_wp2
    go_ret
    exact ⟨rfl, below1 _⟩
  · have hb' : (B i == 0) = false := by simp [hb]
    rw [if_pos (by simp [hb])]
    go_enter Try.func43, Try.ntmps43
    go_wp2
    go_ret
    exact ⟨rfl, below1 _⟩

/-- 'ascii' at every place -/
theorem ascii_any (g n st wd hi i : Nat) (B : Nat → Int) (w : World) (hn : n ≤ 4294967296) (hi1 : i ≤ 4294967296) (hw : wd = 1 ∨ wd = 2 ∧ hi ≤ 1) (hB : Src w g n B) :
    Calls Try.prog 43 #[.agg #[.slice (some ⟨g, 0, none⟩) n n, .int .i64 st, .int .i64 wd, .int .i64 hi], .int .i64 i] w fun e w' => e = .returned (.int .u8 (asc n wd hi B i)) ∧ Below w.heap.size w w' := by
  unfold asc
  by_cases h : n < i + wd
  · rw [if_pos h]
    exact ascii_past g n st wd hi i w hn hi1 (by omega) h
  · rw [if_neg h]
    rcases hw with rfl | ⟨rfl, hh⟩
    · rw [if_pos rfl]
      exact ascii_one g n st hi i B w hn (by omega) (hB i (by omega))
    · rw [if_neg (by omega)]
      have : hi = 0 ∨ hi = 1 := by omega
      rcases this with rfl | rfl
      · exact ascii_be g n st i B w hn (by omega) (hB i (by omega)) (hB (i + 1) (by omega))
      · exact ascii_le g n st i B w hn (by omega) (hB i (by omega)) (hB (i + 1) (by omega))

end Go.Proofs.Qxb6601028a.Units
