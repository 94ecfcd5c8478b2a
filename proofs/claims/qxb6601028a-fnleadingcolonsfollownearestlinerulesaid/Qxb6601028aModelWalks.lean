import Derived.Test.Qxb6601028aColonsWalks
import Derived.Deep.QuietTactic
import Derived.BigQuiet
import Derived.BigRegion
namespace Go.Proofs.Qxb6601028a.Units
open Go.RowKit RowsKit

/-- the codes of a text, in a slice of the call's own -/
def Codes (w : World) (g n : Nat) (C : Nat → Int) : Prop := ∀ k, k < n → w.cell? ⟨g, k, none⟩ = some (.int .i64 (C k))

theorem ret_bool {a b : Bool} (h : a = b) : Ending.returned (.bool a) = .returned (.bool b) := by rw [h]

theorem blank_any (x : Int) (w : World) : Calls Try.prog 35 #[.int .i64 x] w fun e w' => e = .returned (.bool (Colons.blank x)) ∧ w' = w := by
  cases h32 : x == 32
  · go_enter Try.func35, Try.ntmps35
    go_wp2
    go_ret
    exact ⟨ret_bool (by unfold Colons.blank; rw [h32]; rfl), rfl⟩
  · go_enter Try.func35, Try.ntmps35
    go_wp2
    go_ret
    exact ⟨ret_bool (by unfold Colons.blank; rw [h32]; rfl), rfl⟩

set_option maxHeartbeats 1000000 in
theorem lineEnd_any (g n c j : Nat) (C : Nat → Int) (w : World) (hn : n ≤ 65536) (hC : Codes w g n C) (hj : j ≤ n) :
    Calls Try.prog 34 #[.slice (some ⟨g, 0, none⟩) n c, .int .i64 j] w fun e w' => e = .returned (.int .i64 (Colons.nl C (n - j) j : Nat)) ∧ w' = w := by
  have HC : Hid _ := hC
  clear hC
  go_enter Try.func34, Try.ntmps34
  go_wp2
  go_loopg [1, 5] (n - j) (fun gk v1 _ wx => ∃ k : Nat, v1 = .int .i64 k ∧ k ≤ n ∧ gk = n - k ∧ Hid (Colons.nl C (n - k) k = Colons.nl C (n - j) j) ∧ wx = w)
  case atStart => exact ⟨j, rfl, hj, rfl, rfl, rfl⟩
  case round =>
    obtain ⟨k, rfl, hk, rfl, hnl, rfl⟩ := hrel
    by_cases hkn : k < n
    · have hcell := HC.out k hkn
      have e1 : n - k = n - (k + 1) + 1 := by omega
      have hmeas : n - (k + 1) < n - k := by omega
      cases hb : Colons.brk (C k)
      · have h10 : (C k == 10) = false := by simp [Colons.brk] at hb; simp [hb]
        have h13 : (C k == 13) = false := by simp [Colons.brk] at hb; simp [hb]
        have Hnl2 : Hid (Colons.nl C (n - (k + 1)) (k + 1) = Colons.nl C (n - j) j) := by
          show _ = _
          rw [← hnl.out, e1]
          conv => rhs; unfold Colons.nl
          rw [if_neg (by rw [hb]; simp)]
        have hk1 : k + 1 ≤ n := hkn
        clear hnl e1
        go_wp2
        go_roundg (n - (k + 1))
        case measure => exact hmeas
        case rel => exact ⟨k + 1, by go_num, hk1, rfl, Hnl2, rfl⟩
      · have hcase : (C k == 10) = true ∨ ((C k == 10) = false ∧ (C k == 13) = true) := by
          simp only [Colons.brk, Bool.or_eq_true, beq_iff_eq] at hb
          simp only [beq_iff_eq, beq_eq_false_iff_ne]
          omega
        have Hnl2 : Hid (k + 1 = Colons.nl C (n - j) j) := by
          show _ = _
          rw [← hnl.out, e1]
          conv => rhs; unfold Colons.nl
          rw [if_pos hb]
        clear hnl e1
        rcases hcase with h10 | ⟨h10, h13⟩
        all_goals
          go_wp2
          go_ret
          exact ⟨ret_i64 (by rw [← Hnl2.out]; omega), rfl⟩
    · have Hnl2 : Hid (k = Colons.nl C (n - j) j) := by
        show _ = _
        rw [← hnl.out, show n - k = 0 by omega]; rfl
      go_wp2
      go_ret
      exact ⟨ret_i64 (by rw [← Hnl2.out]), rfl⟩

theorem below_drewN0 (w : World) (b n : Nat) : Below b w (w.drewN n) := ⟨rfl, rfl, rfl, Nat.le_refl _, fun _ _ => rfl⟩

set_option maxHeartbeats 1000000 in
theorem equal_ints (ao1 ao2 : Option Addr) (m c1 c2 : Nat) (X : Nat → Int) (w : World) (hm : m ≤ 4294967296) (h : 0 < m → ∃ g1 g2, ao1 = some ⟨g1, 0, none⟩ ∧ ao2 = some ⟨g2, 0, none⟩ ∧ Codes w g1 m X ∧ Codes w g2 m X) :
    Calls Try.prog 16 #[.slice ao1 m c1, .slice ao2 m c2] w fun e w' => e = .returned (.bool true) ∧ Below w.heap.size w w' := by
  by_cases hm0 : m = 0
  · subst hm0
    go_enter Try.func16, Try.ntmps16
    go_wp2
    refine wp_loop_rounds 1 ?_
    rw [rounds_succ]
    go_wp2
    go_ret
    exact ⟨rfl, Below.refl _ _⟩
  · obtain ⟨g1, g2, rfl, rfl, h1, h2⟩ := h (by omega)
    have H1 : Hid _ := h1
    have H2 : Hid _ := h2
    clear h1 h2 h
    go_enter Try.func16, Try.ntmps16
    go_wp2
    go_loopg [5] m (fun gk v5 wx => ∃ k : Nat, v5 = .int .i64 k ∧ k ≤ m ∧ gk = m - k ∧ Hid (Below w.heap.size w wx ∧ Codes wx g1 m X ∧ Codes wx g2 m X))
    case atStart => exact ⟨0, rfl, Nat.zero_le _, rfl, Below.refl _ _, H1.out, H2.out⟩
    case round =>
      obtain ⟨k, rfl, hk, rfl, HW⟩ := hrel
      by_cases hkm : k < m
      · have hc1 := HW.out.2.1 k hkm
        have hc2 := HW.out.2.2 k hkm
        have hki : (k : Int) < (m : Int) := by omega
        have hmeas : m - (k + 1) < m - k := by omega
        go_wp2
        go_quiet (fail)
        go_wp2
        go_roundg (m - (k + 1))
        case measure => exact hmeas
        case rel => exact ⟨k + 1, by go_num, hkm, rfl, (HW.out.1).trans (below_drewN0 _ _ _), HW.out.2.1, HW.out.2.2⟩
      · go_wp2
        go_ret
        exact ⟨rfl, HW.out.1⟩

theorem Try.info5 : (Try.prog.info? 5).map (fun i => (i.zero, i.size, i.bytes)) = some (some (.int .u8 0), 1, 1) := by kernel_rfl

theorem q23 (w : World) (a : Option Addr) (n c n' c' : Nat) : (binOp .eql 23 (.slice a n c) (.slice none n' c')).run Try.prog w = .ok (.bool a.isNone) w := Lib.run_eql_slice_nil w _ _ a n c n' c' Try.underlying23

theorem clone_nil (w : World) : Calls Try.prog 15 #[.slice none 0 0] w fun e w' => e = .returned (.slice none 0 0) ∧ w' = w := by
  have q := q23
  go_enter Try.func15, Try.ntmps15
  go_wp2
  go_ret
  exact ⟨rfl, rfl⟩

set_option maxHeartbeats 1000000 in
theorem clone_empty (x : Addr) (c : Nat) (B : Nat → Int) (w : World) :
    Calls Try.prog 15 #[.slice (some x) 0 c] w fun e w' => e = .returned (.slice (some ⟨w.heap.size, 0, none⟩) 0 0) ∧ Src w' w.heap.size 0 B ∧ w.heap.size < w'.heap.size ∧ Below w.heap.size w w' := by
  have q := q23
  have hmk : ∀ w : World, (Instr.makeSlice 23 (.int .i64 0) (.int .i64 0)).run Try.prog w = .ok (.slice (some ⟨w.heap.size, 0, none⟩) 0 0) (w.alloc (.cells #[] 5)) := fun _ => by kernel_rfl
  go_enter Try.func15, Try.ntmps15
  go_wp2
  refine wp_loop_rounds 1 ?_
  rw [rounds_succ]
  go_wp2
  go_ret
  exact ⟨rfl, fun k hk => by omega, by simp, below1 _⟩

set_option maxHeartbeats 1000000 in
theorem clone_some (b off n c : Nat) (B : Nat → Int) (w : World) (hn : n ≤ 65536) (hn0 : 0 < n) (h : ∀ i, i < n → w.cell? ⟨b, off + i, none⟩ = some (.int .u8 (B i))) :
    Calls Try.prog 15 #[.slice (some ⟨b, off, none⟩) n c] w fun e w' => e = .returned (.slice (some ⟨w.heap.size, 0, none⟩) n n) ∧ Src w' w.heap.size n B ∧ w.heap.size < w'.heap.size ∧ Below w.heap.size w w' := by
  obtain ⟨i5, hi5, hz50, hz51, hz52⟩ := info_parts Try.info5
  have hb1 : i5.bytes * n ≤ 281474976710656 := by rw [hz52]; omega
  have hb2 : n ≤ maxLen := by unfold maxLen; omega
  have hbw : b < w.heap.size := World.block_lt_of_cell? w ⟨b, off + 0, none⟩ (h 0 hn0)
  have HC : Hid _ := h
  have q := q23
  clear h
  go_enter Try.func15, Try.ntmps15
  go_wp2_with (at_make; refine wpList_make_full _ rfl (.tmp 8) (.tmp 8) 23 rfl w.heap.size 5 i5 (.int .u8 0) 1 Try.underlying23 hi5 hz50 hz51 .i64 .i64 _ _ n rfl rfl rfl rfl hb1 hb2 (Nat.le_refl _) ?_)
  intro w1 hown hgrow
  go_wp2_with fail
  have hown' : Hid (Row.owned w1 w.heap.size ⟨5, 1, some ⟨w.heap.size, 0, none⟩, n, n, (madeCells #[Value.int .u8 0] n).toList⟩) := hown
  have hbel : Hid (Below w.heap.size w w1) := (Below.refl _ _).grown hgrow (Nat.le_refl _) (fun k hk => by cases hk)
  clear hown hgrow
  go_loopg [4] n (fun gk v4 wx => ∃ (k : Nat) (xs : List Value), v4 = .int .i64 k ∧ k ≤ n ∧ gk = n - k ∧ Hid (Row.owned wx w.heap.size ⟨5, 1, some ⟨w.heap.size, 0, none⟩, n, n, xs⟩ ∧ (∀ t, t < k → xs[t]? = some (.int .u8 (B t))) ∧ Below w.heap.size w wx))
  case atStart => exact ⟨0, _, rfl, Nat.zero_le _, rfl, hown'.out, fun t ht => by omega, hbel.out⟩
  case round =>
    obtain ⟨k, xs, rfl, hk, rfl, HR⟩ := hrel
    have hsz : w.heap.size < wr.heap.size := (World.ownsRow.lt HR.out.1 w.heap.size rfl).2
    by_cases hkn : k < n
    · have hsrc : wr.cell? ⟨b, off + k, none⟩ = some (.int .u8 (B k)) := ((HR.out.2.2).cell (p := ⟨b, off + k, none⟩) hbw).trans (HC.out k hkn)
      have hxl : xs.length = n * 1 := HR.out.1.1
      have hcell : wr.cell? ⟨w.heap.size, k, none⟩ = some (xs[k]'(by omega)) := by rw [owned_cell HR.out.1 k (by omega), List.getElem?_eq_getElem (by omega)]
      have hfr := owned_frozen HR.out.1 k
      have hki : (k : Int) < (n : Int) := by omega
      have hmeas : n - (k + 1) < n - k := by omega
      generalize xs[k]'(by omega) = old at hcell
      go_wp2_with fail
      go_roundg (n - (k + 1))
      case measure => exact hmeas
      case rel =>
        refine ⟨k + 1, xs.set k (.int .u8 (B k)), by go_num, hkn, rfl, ?_, ?_, ?_⟩
        · exact (World.ownsRow.stored HR.out.1 k _).1
        · intro t ht
          by_cases e : t = k
          · subst e; rw [List.getElem?_set_self (by omega)]
          · rw [List.getElem?_set_ne (by omega)]; exact HR.out.2.1 t (by omega)
        · exact (HR.out.2.2).setCell (Nat.le_refl _) _
    · have hkn' : k = n := by omega
      go_wp2_with fail
      go_ret
      refine ⟨rfl, ?_, hsz, HR.out.2.2⟩
      intro t ht
      rw [owned_cell HR.out.1 t (by omega)]
      exact HR.out.2.1 t (by omega)

end Go.Proofs.Qxb6601028a.Units
