import Derived.Test.Qxb6601028aUnitsWalks
namespace Go.Proofs.Qxb6601028a.Units
open Go.RowKit RowsKit

/-- what is known of a text seen a unit at a time -/
structure Text (n st wd hi N M : Nat) (B A : Nat → Int) : Prop where
  small : n ≤ 65536
  st3 : st ≤ 3
  width : wd = 1 ∨ wd = 2 ∧ hi ≤ 1
  units : ∀ j, A j = asc n wd hi B (st + wd * j)
  past : n < st + wd * N + wd
  few : st + wd * N ≤ n
  more : ∀ k, k < M ↔ st + wd * k < n

theorem Text.zero {n st wd hi N M : Nat} {B A : Nat → Int} (h : Text n st wd hi N M B A) {j : Nat} (hj : N ≤ j) : A j = 0 := by
  rw [h.units]; unfold asc; rw [if_pos]
  have := h.past
  have hw := h.width
  have hm : wd * N ≤ wd * j := Nat.mul_le_mul_left _ hj
  omega

theorem Text.wd_le {n st wd hi N M : Nat} {B A : Nat → Int} (h : Text n st wd hi N M B A) : 1 ≤ wd ∧ wd ≤ 2 := by have := h.width; omega

theorem ret_i64 {a b : Int} (h : a = b) : Ending.returned (.int .i64 a) = .returned (.int .i64 b) := by rw [h]

theorem src_below {b : Nat} {w w' : World} {g n : Nat} {B : Nat → Int} (h : Src w g n B) (hb : Below b w w') (hg : g < b) : Src w' g n B := fun k hk => (hb.cell (p := ⟨g, k, none⟩) hg).trans (h k hk)

theorem ascii_at (g n st wd hi : Nat) (x : Int) (i : Nat) (B : Nat → Int) (w : World) (hx : x = (i : Int)) (hn : n ≤ 4294967296) (hi1 : i ≤ 4294967296) (hw : wd = 1 ∨ wd = 2 ∧ hi ≤ 1) (hB : Src w g n B) :
    Calls Try.prog 43 #[.agg #[.slice (some ⟨g, 0, none⟩) n n, .int .i64 st, .int .i64 wd, .int .i64 hi], .int .i64 x] w fun e w' => e = .returned (.int .u8 (asc n wd hi B i)) ∧ Below w.heap.size w w' := by
  subst hx; exact ascii_any g n st wd hi i B w hn hi1 hw hB

/-- the world behind the receiver's box: what lies below has not turned -/
def Box (w : World) (g n st wd hi : Nat) (wx : World) : Prop := Below (w.heap.size + 1) (w.alloc (.cells #[.slice (some ⟨g, 0, none⟩) n n, .int .i64 st, .int .i64 wd, .int .i64 hi] 33)) wx

theorem Box.cells {w wx : World} {g n st wd hi : Nat} (hb : Box w g n st wd hi wx) : wx.cell? ⟨w.heap.size, 0, none⟩ = some (.slice (some ⟨g, 0, none⟩) n n) ∧ wx.cell? ⟨w.heap.size, 1, none⟩ = some (.int .i64 st) ∧ wx.cell? ⟨w.heap.size, 2, none⟩ = some (.int .i64 wd) ∧ wx.cell? ⟨w.heap.size, 3, none⟩ = some (.int .i64 hi) :=
  ⟨(Below.cell hb (p := ⟨w.heap.size, 0, none⟩) (by simp)).trans (World.cell?_alloc_new w _ _ _), (Below.cell hb (p := ⟨w.heap.size, 1, none⟩) (by simp)).trans (World.cell?_alloc_new w _ _ _), (Below.cell hb (p := ⟨w.heap.size, 2, none⟩) (by simp)).trans (World.cell?_alloc_new w _ _ _), (Below.cell hb (p := ⟨w.heap.size, 3, none⟩) (by simp)).trans (World.cell?_alloc_new w _ _ _)⟩
theorem Box.src {w wx : World} {g n st wd hi : Nat} {B : Nat → Int} (hb : Box w g n st wd hi wx) (hB : Src w g n B) (hg : g < w.heap.size) : Src wx g n B := src_below (src_below hB (below1 _) hg) hb (by omega)
theorem Box.size {w wx : World} {g n st wd hi : Nat} (hb : Box w g n st wd hi wx) : w.heap.size + 1 ≤ wx.heap.size := by have := Below.size hb; simpa using this
theorem Box.next {w wx wy : World} {g n st wd hi : Nat} (hb : Box w g n st wd hi wx) (h : Below wx.heap.size wx wy) : Box w g n st wd hi wy := Below.trans hb (h.mono hb.size)
theorem Box.old {w wx : World} {g n st wd hi : Nat} (hb : Box w g n st wd hi wx) : Below w.heap.size w wx := (below1 _).trans (Below.mono hb (by omega))

set_option maxHeartbeats 1000000 in
theorem skip_any (g n st wd hi N M : Nat) (x : Int) (i j : Nat) (B A : Nat → Int) (w : World) (T : Text n st wd hi N M B A) (hB : Src w g n B) (hg : g < w.heap.size) (hx : x = (i : Int)) (hij : Hid (i = st + wd * j)) (hj : j ≤ N) :
    Calls Try.prog 42 #[.agg #[.slice (some ⟨g, 0, none⟩) n n, .int .i64 st, .int .i64 wd, .int .i64 hi], .int .i64 x] w fun e w' => ∃ i' : Nat, e = .returned (.int .i64 i') ∧ Hid (i' = st + wd * Colons.sb A (N - j) j) ∧ Below w.heap.size w w' := by
  subst hx
  have hn0 := T.small
  have hn : n ≤ 4294967296 := by omega
  have hwd := T.wd_le
  have hiN : ∀ k, k ≤ N → st + wd * k ≤ n := fun k hk => by have := T.few; have hm : wd * k ≤ wd * N := Nat.mul_le_mul_left _ hk; omega
  have hi1 : i ≤ 4294967296 := by have := hij.out; have := hiN j hj; omega
  have HU : Hid (A j = asc n wd hi B i) := by show _ = _; rw [T.units, hij.out]
  have HiN : Hid _ := hiN
  clear hiN
  go_enter Try.func42, Try.ntmps42
  go_wp2_with fail
  refine (ascii_at g n st wd hi _ i B _ rfl hn hi1 T.width (by exact src_below hB (below1 _) hg)).mono ?_
  rintro e w' ⟨rfl, hb0⟩
  rw [← HU.out]
  simp only [World.size_alloc] at hb0
  have hb1 : Hid (Box w g n st wd hi w') := hb0
  clear hb0
  go_wp2_with fail
  go_loopw [1, 5] (fun t c wr => ∃ i1 k : Nat, t = .int .i64 i1 ∧ c = .int .u8 (A k) ∧ k ≤ N ∧ Hid (i1 = st + wd * k) ∧ Hid (Colons.sb A (N - k) k = Colons.sb A (N - j) j) ∧ Hid (Box w g n st wd hi wr)) (fun t _ _ => n + 1 - (intOf t).toNat)
  case atStart => exact ⟨i, j, rfl, rfl, hj, hij, rfl, hb1⟩
  case round =>
    obtain ⟨i1, k, rfl, rfl, hk, hik, hsb, hbw⟩ := hrel
    have hi1n : i1 ≤ n := by have := hik.out; have := HiN.out k hk; omega
    by_cases hbk : Colons.blank (A k) = true
    · have hkN : k < N := by
        by_cases h : k < N
        · exact h
        · rw [T.zero (by omega)] at hbk; simp [Colons.blank] at hbk
      have hcase : A k = 32 ∨ A k = 9 := by simpa [Colons.blank] using hbk
      have HU2 : Hid (A (k + 1) = asc n wd hi B (i1 + wd)) := by show _ = _; rw [T.units, hik.out, Nat.mul_add, Nat.mul_one, Nat.add_assoc]
      have Hsb2 : Hid (Colons.sb A (N - (k + 1)) (k + 1) = Colons.sb A (N - j) j) := by
        show _ = _
        rw [← hsb.out, show N - k = N - (k + 1) + 1 by omega]
        conv => rhs; unfold Colons.sb
        rw [if_pos hbk]
      have Hik2 : Hid (i1 + wd = st + wd * (k + 1)) := by show _ = _; rw [hik.out, Nat.mul_add, Nat.mul_one, Nat.add_assoc]
      obtain ⟨hc0, hc1, hc2, hc3⟩ := hbw.out.cells
      clear hsb hik hbk
      rcases hcase with hA | hA
      all_goals
        have hA1 : (A k == 32) = true ∨ (A k == 32) = false := by simp [hA]
        go_wp2_with fail
        refine (ascii_at g n st wd hi _ (i1 + wd) B _ (by omega) hn (by omega) T.width (by exact hbw.out.src hB hg)).mono ?_
        rintro e w2 ⟨rfl, hb2⟩
        rw [← HU2.out]
        go_wp2_with fail
        go_roundw
        case rel => exact ⟨i1 + wd, k + 1, by go_num, rfl, by omega, Hik2, Hsb2, hbw.out.next hb2⟩
        case measure => simp [intOf]; omega
    · have hb32 : (A k == 32) = false := by simp [Colons.blank] at hbk; simp [hbk]
      have hb9 : (A k == 9) = false := by simp [Colons.blank] at hbk; simp [hbk]
      have Hk : Hid (k = Colons.sb A (N - j) j) := by
        show _ = _
        rw [← hsb.out]
        cases N - k with
        | zero => rfl
        | succ f => unfold Colons.sb; rw [if_neg hbk]
      go_wp2_with fail
      go_ret
      exact ⟨i1, rfl, by show _ = _; rw [← Hk.out]; exact hik.out, hbw.out.old⟩

set_option maxHeartbeats 1000000 in
theorem next_any (g n st wd hi N M : Nat) (x : Int) (i j : Nat) (B A : Nat → Int) (w : World) (T : Text n st wd hi N M B A) (hB : Src w g n B) (hg : g < w.heap.size) (hx : x = (i : Int)) (hij : Hid (i = st + wd * j)) (hj : j ≤ M) :
    Calls Try.prog 41 #[.agg #[.slice (some ⟨g, 0, none⟩) n n, .int .i64 st, .int .i64 wd, .int .i64 hi], .int .i64 x] w fun e w' => ∃ i' : Nat, e = .returned (.int .i64 i') ∧ Hid (i' = st + wd * Colons.nl A (M - j) j) ∧ Below w.heap.size w w' := by
  subst hx
  have hn0 := T.small
  have hn : n ≤ 4294967296 := by omega
  have hwd := T.wd_le
  have hiM : ∀ k, k ≤ M → st + wd * k ≤ n + 5 := fun k hk => by
    cases k with
    | zero => have := T.st3; omega
    | succ k => have := (T.more k).1 (by omega); rw [Nat.mul_add, Nat.mul_one]; omega
  have HiM : Hid _ := hiM
  clear hiM
  go_enter Try.func41, Try.ntmps41
  go_wp2_with fail
  go_loopw [1, 5] (fun t c wr => ∃ i1 k : Nat, t = .int .i64 i1 ∧ k ≤ M ∧ Hid (i1 = st + wd * k) ∧ Hid (Colons.nl A (M - k) k = Colons.nl A (M - j) j) ∧ Hid (Box w g n st wd hi wr)) (fun t _ _ => n + 6 - (intOf t).toNat)
  case atStart => exact ⟨i, j, rfl, hj, hij, rfl, Below.refl _ _⟩
  case round =>
    obtain ⟨i1, k, rfl, hk, hik, hnl, hbw⟩ := hrel
    have hi1n : i1 ≤ n + 5 := by have := hik.out; have := HiM.out k hk; omega
    obtain ⟨hc0, hc1, hc2, hc3⟩ := hbw.out.cells
    by_cases hkM : k < M
    · have hlt : i1 < n := by have := (T.more k).1 hkM; have := hik.out; omega
      have HU2 : Hid (A k = asc n wd hi B i1) := by show _ = _; rw [T.units, hik.out]
      have Hik2 : Hid (i1 + wd = st + wd * (k + 1)) := by show _ = _; rw [hik.out, Nat.mul_add, Nat.mul_one, Nat.add_assoc]
      by_cases hbk : Colons.brk (A k) = true
      · have hcase : A k = 10 ∨ A k = 13 := by simpa [Colons.brk] using hbk
        have Hnl2 : Hid (k + 1 = Colons.nl A (M - j) j) := by
          show _ = _
          rw [← hnl.out, show M - k = M - (k + 1) + 1 by omega]
          conv => rhs; unfold Colons.nl
          rw [if_pos hbk]
        clear hnl hik hbk
        rcases hcase with hA | hA
        all_goals
          go_wp2_with fail
          refine (ascii_at g n st wd hi _ i1 B _ rfl hn (by omega) T.width (by exact hbw.out.src hB hg)).mono ?_
          rintro e w2 ⟨rfl, hb2⟩
          rw [← HU2.out]
          have hbw2 : Hid (Box w g n st wd hi w2) := hbw.out.next hb2
          have hc2' := hbw2.out.cells.2.2.1
          clear hc0 hc1 hc2 hc3 hbw hb2
          go_wp2_with fail
          go_ret
          exact ⟨i1 + wd, ret_i64 (by omega), by show _ = _; rw [← Hnl2.out]; exact Hik2.out, hbw2.out.old⟩
      · have hb10 : (A k == 10) = false := by simp [Colons.brk] at hbk; simp [hbk]
        have hb13 : (A k == 13) = false := by simp [Colons.brk] at hbk; simp [hbk]
        have Hnl2 : Hid (Colons.nl A (M - (k + 1)) (k + 1) = Colons.nl A (M - j) j) := by
          show _ = _
          rw [← hnl.out, show M - k = M - (k + 1) + 1 by omega]
          conv => rhs; unfold Colons.nl
          rw [if_neg hbk]
        clear hnl hik hbk
        go_wp2_with fail
        refine (ascii_at g n st wd hi _ i1 B _ rfl hn (by omega) T.width (by exact hbw.out.src hB hg)).mono ?_
        rintro e w2 ⟨rfl, hb2⟩
        rw [← HU2.out]
        have hbw2 : Hid (Box w g n st wd hi w2) := hbw.out.next hb2
        have hc2' := hbw2.out.cells.2.2.1
        clear hc0 hc1 hc2 hc3 hbw hb2
        go_wp2_with fail
        go_roundw
        case rel => exact ⟨i1 + wd, k + 1, by go_num, by omega, Hik2, Hnl2, hbw2⟩
        case measure => simp [intOf]; omega
    · have hge : ¬ i1 < n := by intro h; rw [hik.out] at h; exact hkM ((T.more k).2 h)
      have Hnl2 : Hid (k = Colons.nl A (M - j) j) := by
        show _ = _
        rw [← hnl.out, show M - k = 0 by omega]; rfl
      go_wp2_with fail
      go_ret
      exact ⟨i1, rfl, by show _ = _; rw [← Hnl2.out]; exact hik.out, hbw.out.old⟩
end Go.Proofs.Qxb6601028a.Units
