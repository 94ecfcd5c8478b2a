import Derived.Test.Qxb6601028aModelColons
import Derived.Test.Qxb6601028aUnitsOf
namespace Go.Proofs.Qxb6601028a.Units
open Go.RowKit RowsKit

/-! ### the nil slice -/
theorem prefix_nil (gp k : Nat) (w : World) (hk : 0 < k) (hk2 : k ≤ 3) : Calls Try.prog 40 #[.slice none 0 0, .slice (some ⟨gp, 0, none⟩) k k] w fun e w' => e = .returned (.bool false) ∧ w' = w := by
  have hki : ¬ (k : Int) ≤ 0 := by omega
  go_enter Try.func40, Try.ntmps40
  go_wp2
  go_ret
  exact ⟨rfl, rfl⟩

set_option maxHeartbeats 1000000 in
theorem unitsOf_nil (w : World) : Calls Try.prog 31 #[.slice none 0 0] w fun e w' => e = .returned (.agg #[.slice none 0 0, .int .i64 0, .int .i64 1, .int .i64 0]) ∧ Below w.heap.size w w' := by
  have kc := kc23
  go_enter Try.func31, Try.ntmps31
  go_wp2_with fail
  refine (prefix_nil (w.heap.size + 1) 2 _ (by omega) (by omega)).mono ?_
  rintro e w1 ⟨rfl, hw1⟩
  subst hw1
  go_wp2_with fail
  refine (prefix_nil (w.heap.size + 2) 2 _ (by omega) (by omega)).mono ?_
  rintro e w1 ⟨rfl, hw1⟩
  subst hw1
  go_wp2_with fail
  refine (prefix_nil (w.heap.size + 3) 3 _ (by omega) (by omega)).mono ?_
  rintro e w1 ⟨rfl, hw1⟩
  subst hw1
  go_wp2_with fail
  refine bodyPost_ret (v := .agg #[.slice none 0 0, .int .i64 0, .int .i64 1, .int .i64 0]) (by simp [results, Try.results31, go_sem]) rfl ⟨rfl, ?_⟩
  exact (((((Below.refl _ _).alloc (Nat.le_refl _) _).alloc (by simp) _).alloc (by simp; omega) _).alloc (by simp; omega) _)

set_option maxRecDepth 100000 in
set_option maxHeartbeats 1000000 in
theorem colons_nil (w : World) : Calls Try.prog 32 #[.agg #[.slice none 0 0, .int .i64 0, .int .i64 1, .int .i64 0]] w fun e w' => e = .returned (.slice none 0 0) ∧ Below w.heap.size w w' := by
  go_enter Try.func32, Try.ntmps32
  go_wp2_with fail
  refine wp_loop_rounds 1 ?_
  rw [rounds_succ]
  go_wp2_with fail
  go_ret
  exact ⟨rfl, below1 _⟩

theorem lead_nil (w : World) : Calls Try.prog 17 #[.slice none 0 0] w fun e w' => e = .returned (.slice none 0 0) ∧ Below w.heap.size w w' := by
  go_enter Try.func17, Try.ntmps17
  go_wp2_with fail
  refine (unitsOf_nil _).mono ?_
  rintro e w1 ⟨rfl, hb1⟩
  go_wp2_with fail
  refine (colons_nil _).mono ?_
  rintro e w2 ⟨rfl, hb2⟩
  go_wp2_with fail
  go_ret
  exact ⟨rfl, hb1.trans (hb2.mono hb1.size)⟩

set_option maxRecDepth 100000 in
set_option maxHeartbeats 1000000 in
theorem decode_nil (w : World) : Calls Try.prog 33 #[.slice none 0 0] w fun e w' => e = .returned (.tuple #[.int .i64 0, .int .i64 1, .bool false, .slice (some ⟨w.heap.size, 0, none⟩) 0 0]) ∧ Below w.heap.size w w' := by
  have hmk : ∀ w : World, (Instr.makeSlice 27 (.int .i64 0) (.int .i64 0)).run Try.prog w = .ok (.slice (some ⟨w.heap.size, 0, none⟩) 0 0) (w.alloc (.cells #[] 3)) := fun _ => by kernel_rfl
  go_enter Try.func33, Try.ntmps33
  go_wp2_with fail
  refine wp_loop_rounds 1 ?_
  rw [rounds_succ]
  go_wp2_with fail
  refine bodyPost_ret (results_tmp4 rfl _ _ _) rfl ?_
  exact ⟨rfl, below1 _⟩

set_option maxRecDepth 100000 in
set_option maxHeartbeats 1000000 in
theorem model_nil (w : World) : Calls Try.prog 18 #[.slice none 0 0] w fun e w' => e = .returned (.slice none 0 0) ∧ Below w.heap.size w w' := by
  go_enter Try.func18, Try.ntmps18
  go_wp2_with fail
  refine (decode_nil _).mono ?_
  rintro e w1 ⟨rfl, hb1⟩
  go_wp2_with fail
  refine wp_loop_rounds 1 ?_
  rw [rounds_succ]
  go_wp2_with fail
  go_ret
  exact ⟨rfl, hb1⟩

/-! ### any other slice -/
theorem hiBound (n : Nat) (B : Nat → Int) : hiOf n B ≤ 1 := by unfold hiOf; split <;> omega

theorem text_of (n : Nat) (B : Nat → Int) (hn : n ≤ 65536) : Text n (stOf n B) (wdOf n B) (hiOf n B) ((n - stOf n B) / wdOf n B) ((n - stOf n B + wdOf n B - 1) / wdOf n B) B (fun j => asc n (wdOf n B) (hiOf n B) B (stOf n B + wdOf n B * j)) := by
  have h := st_le n B
  have h2 := hiBound n B
  generalize stOf n B = st at *
  generalize wdOf n B = wd at *
  generalize hiOf n B = hi at *
  obtain ⟨h3, hsn, h12⟩ := h
  refine ⟨hn, h3, by omega, fun _ => rfl, ?_, ?_, ?_⟩
  · rcases h12 with rfl | rfl
    · rw [Nat.div_one]; omega
    · omega
  · rcases h12 with rfl | rfl
    · rw [Nat.div_one]; omega
    · omega
  · intro k
    rcases h12 with rfl | rfl
    · rw [Nat.div_one]; omega
    · omega

theorem alike_of (n : Nat) (B : Nat → Int) (hb : ∀ k, 0 ≤ B k ∧ B k ≤ 255) (N : Nat) (hN : N = (n - stOf n B) / wdOf n B) :
    Colons.Alike (fun j => asc n (wdOf n B) (hiOf n B) B (stOf n B + wdOf n B * j)) (fun t => if t < N then codeAt n B t else -1) := by
  have key : ∀ t (c : Int), 0 < c → c < 128 → ((asc n (wdOf n B) (hiOf n B) B (stOf n B + wdOf n B * t)) == c) = ((if t < N then codeAt n B t else -1) == c) := by
    intro t c hc0 hc1
    have h := st_le n B
    have hhb : wdOf n B = 2 → (bigOf n B = true ∧ hiOf n B = 0) ∨ (bigOf n B = false ∧ hiOf n B = 1) := by
      unfold wdOf bigOf hiOf
      cases isLE n B <;> cases isBE n B <;> simp
    unfold codeAt
    generalize stOf n B = st at *
    generalize wdOf n B = wd at *
    generalize hiOf n B = hi at *
    generalize bigOf n B = bg at *
    obtain ⟨_, hsn, h12⟩ := h
    rw [Bool.eq_iff_iff, beq_iff_eq, beq_iff_eq]
    unfold asc
    rcases h12 with rfl | rfl
    · rw [Nat.div_one] at hN
      by_cases ht : t < N
      · rw [if_neg (by omega), if_pos rfl, if_pos ht, if_pos rfl, Nat.one_mul]
      · rw [if_pos (by omega), if_neg ht]; omega
    · by_cases ht : t < N
      · have h21 : ¬ (2 : Nat) = 1 := by omega
        rw [if_neg (show ¬ n < st + 2 * t + 2 by omega), if_pos ht]
        simp only [h21, if_false]
        have b0 := hb (st + 2 * t)
        have b1 := hb (st + 2 * t + 1)
        rcases hhb rfl with ⟨rfl, rfl⟩ | ⟨rfl, rfl⟩
        · simp only [Nat.add_zero, Nat.sub_zero, if_true]
          by_cases hz : B (st + 2 * t) = 0
          · simp only [hz, ne_eq, not_true, if_false]; omega
          · simp only [hz, ne_eq, not_false_iff, if_true]; omega
        · simp only [Nat.add_sub_cancel, Bool.false_eq_true, if_false]
          by_cases hz : B (st + 2 * t + 1) = 0
          · simp only [hz, ne_eq, not_true, if_false]; omega
          · simp only [hz, ne_eq, not_false_iff, if_true]; omega
      · rw [if_pos (by omega), if_neg ht]; omega
  intro t
  exact ⟨key t 32 (by omega) (by omega), key t 9 (by omega) (by omega), key t 10 (by omega) (by omega), key t 13 (by omega) (by omega), key t 35 (by omega) (by omega), key t 45 (by omega) (by omega), key t 63 (by omega) (by omega), key t 58 (by omega) (by omega)⟩

theorem ceil_of (n : Nat) (B : Nat → Int) : (n - stOf n B + wdOf n B - 1) / wdOf n B = (n - stOf n B) / wdOf n B ∨ (n - stOf n B + wdOf n B - 1) / wdOf n B = (n - stOf n B) / wdOf n B + 1 := by
  have h := st_le n B
  rcases h.2.2 with h | h <;> rw [h] <;> omega

theorem lead_any (g n : Nat) (B : Nat → Int) (w : World) (hn : n ≤ 65536) (hB : Src w g n B) (hg : g < w.heap.size) (hb : ∀ k, 0 ≤ B k ∧ B k ≤ 255) (R : List Nat)
    (HR : Hid (Colons.goC (fun j => asc n (wdOf n B) (hiOf n B) B (stOf n B + wdOf n B * j)) ((n - stOf n B) / wdOf n B) ((n - stOf n B + wdOf n B - 1) / wdOf n B) ((n - stOf n B + wdOf n B - 1) / wdOf n B) 0 [] [] = R)) :
    Calls Try.prog 17 #[.slice (some ⟨g, 0, none⟩) n n] w fun e w' => ∃ ao m c, e = .returned (.slice ao m c) ∧ Row.owned w' w.heap.size (rowO (stOf n B) (wdOf n B) ao m c R) ∧ R.length = m ∧ Below w.heap.size w w' := by
  have T := text_of n B hn
  have Hb : Hid _ := hb
  obtain ⟨st, hst⟩ : ∃ x, stOf n B = x := ⟨_, rfl⟩
  obtain ⟨wd, hwd⟩ : ∃ x, wdOf n B = x := ⟨_, rfl⟩
  obtain ⟨hi, hhi⟩ : ∃ x, hiOf n B = x := ⟨_, rfl⟩
  rw [hst, hwd, hhi] at T HR
  rw [hst, hwd]
  have Hst : Hid (st = stOf n B) := hst.symm
  have Hwd : Hid (wd = wdOf n B) := hwd.symm
  have Hhi : Hid (hi = hiOf n B) := hhi.symm
  clear hst hwd hhi hb
  go_enter Try.func17, Try.ntmps17
  go_wp2_with fail
  refine (unitsOf_any g n B _ hB hg Hb.out st wd hi Hst Hwd Hhi).mono ?_
  rintro e w1 ⟨rfl, hb1⟩
  go_wp2_with fail
  refine (colons_any g n st wd hi _ _ B _ _ T (by exact src_below hB hb1 hg) (by have := hb1.size; omega)).mono ?_
  rintro e w2 ⟨ao, m, c, rfl, hown, hlen, hb2⟩
  rw [HR.out] at hown hlen
  go_wp2_with fail
  go_ret
  exact ⟨ao, m, c, rfl, owned_base hown (by have := hb1.size; omega), hlen, hb1.trans (hb2.mono hb1.size)⟩

end Go.Proofs.Qxb6601028a.Units
