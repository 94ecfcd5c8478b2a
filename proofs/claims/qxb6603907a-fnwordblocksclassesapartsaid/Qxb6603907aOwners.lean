import Derived.Test.Qxb6603907aOpenOps
namespace Go.Proofs.Qxb6603907a
open Go.RowKit RowsKit Blocks

theorem q28 (w : World) (a : Option Addr) (n c n' c' : Nat) : (binOp .eql 28 (.slice a n c) (.slice none n' c')).run Try.prog w = .ok (.bool a.isNone) w := Lib.run_eql_slice_nil w _ _ a n c n' c' Try.underlying28

theorem segs_zero (k : IntKind) (n : Nat) : (madeCells #[.int k 0] n).toList = segs k (fun _ => 0) 0 n := by
  rw [toList_madeCells_one]
  apply List.ext_getElem?
  intro j
  by_cases hj : j < n
  · rw [segs_at _ _ _ _ _ hj]
    simp [hj]
  · rw [List.getElem?_eq_none (by simp; omega), List.getElem?_eq_none (by rw [segs_len]; omega)]

/-- the first 't' of them, then zeros -/
def part (f : Nat → Int) (t : Nat) : Nat → Int := fun i => if i < t then f i else 0
theorem part_zero (f : Nat → Int) : part f 0 = fun _ => 0 := funext fun i => if_neg (Nat.not_lt_zero i)
theorem part_succ (f : Nat → Int) (t : Nat) : upd (part f t) t (f t) = part f (t + 1) := by
  funext i
  unfold upd part
  by_cases e : i = t
  · subst e
    rw [if_pos rfl, if_pos (Nat.lt_succ_self i)]
  · rw [if_neg e]
    by_cases hi : i < t
    · rw [if_pos hi, if_pos (by omega)]
    · rw [if_neg hi, if_neg (by omega)]
theorem part_all (k : IntKind) (f : Nat → Int) (n : Nat) : segs k (part f n) 0 n = segs k f 0 n := segs_ext fun j hj => if_pos (by omega)
theorem upd_id (f : Nat → Int) (j : Nat) : upd f j (f j) = f := by
  funext i
  unfold upd
  by_cases e : i = j
  · rw [if_pos e, e]
  · rw [if_neg e]

theorem owners_nil (w : World) : Calls Try.prog 16 #[.slice none 0 0] w fun e w' => e = .returned (.slice none 0 0) ∧ w' = w := by
  have q := q28
  go_enter Try.func16, Try.ntmps16
  go_wp2_with fail
  go_ret
  exact ⟨rfl, rfl⟩

theorem made32 (w : World) (n : Nat) (hn : n ≤ 4096) : Row.owned (w.alloc (.cells (madeCells #[.int .u32 0] n) 30)) w.heap.size ⟨30, 1, some ⟨w.heap.size, 0, none⟩, n, n, segs .u32 (fun _ => 0) 0 n⟩ := by
  have h := World.ownsRow_lit (base := w.heap.size) (e := 30) (size := 1) w (madeCells #[.int .u32 0] n) n (Nat.le_refl _) (by unfold maxLen; omega) (by rw [size_madeCells, Nat.mul_one])
  rw [segs_zero] at h
  exact h

theorem owners_empty (x : Addr) (cap : Nat) (w : World) : Calls Try.prog 16 #[.slice (some x) 0 cap] w fun e w' => e = .returned (.slice (some ⟨w.heap.size, 0, none⟩) 0 0) ∧ Row.owned w' w.heap.size ⟨30, 1, some ⟨w.heap.size, 0, none⟩, 0, 0, []⟩ ∧ Below w.heap.size w w' := by
  have hmk : ∀ w : World, (Instr.makeSlice 28 (.int .i64 0) (.int .i64 0)).run Try.prog w = .ok (.slice (some ⟨w.heap.size, 0, none⟩) 0 0) (w.alloc (.cells (madeCells #[.int .u32 0] 0) 30)) := fun w => run_make_row' (P := Try.prog) 28 30 (.int .u32 0) 4 Try.underlying28 Try.info30 rfl .i64 .i64 0 (by decide) (by decide) w
  have q := q28
  have H0 : Hid (Row.owned (w.alloc (.cells (madeCells #[.int .u32 0] 0) 30)) w.heap.size ⟨30, 1, some ⟨w.heap.size, 0, none⟩, 0, 0, []⟩) := made32 w 0 (by decide)
  go_enter Try.func16, Try.ntmps16
  go_wp2_with fail
  go_loopg [4] 1 (fun gk v4 wx => v4 = .int .i64 0 ∧ Hid (Row.owned wx w.heap.size ⟨30, 1, some ⟨w.heap.size, 0, none⟩, 0, 0, []⟩ ∧ Below w.heap.size w wx))
  case atStart => exact ⟨rfl, H0.out, ⟨rfl, rfl, rfl, by simp, fun x hx => Below.heap_alloc _ _ x hx⟩⟩
  case round =>
    obtain ⟨rfl, HR⟩ := hrel
    go_wp2_with fail
    go_ret
    exact ⟨rfl, HR.out.1, HR.out.2⟩

set_option maxRecDepth 100000 in
theorem owners_some (w : World) (b off n cap : Nat) (os : Nat → Int) (hn : n ≤ 4096) (h : Hid (∀ i, i < n → w.cell? ⟨b, off + i, none⟩ = some (.int .u32 (os i)))) (hb : Hid (0 < n → b < w.heap.size)) :
    Calls Try.prog 16 #[.slice (some ⟨b, off, none⟩) n cap] w fun e w' => e = .returned (.slice (some ⟨w.heap.size, 0, none⟩) n n) ∧ Row.owned w' w.heap.size ⟨30, 1, some ⟨w.heap.size, 0, none⟩, n, n, segs .u32 os 0 n⟩ ∧ Below w.heap.size w w' := by
  have hmk := run_make_row' (P := Try.prog) 28 30 (.int .u32 0) 4 Try.underlying28 Try.info30 rfl .i64 .i64 n (by omega) (by omega)
  have q := q28
  have H0 : Hid (Row.owned (w.alloc (.cells (madeCells #[.int .u32 0] n) 30)) w.heap.size ⟨30, 1, some ⟨w.heap.size, 0, none⟩, n, n, segs .u32 (part os 0) 0 n⟩) := by
    show Row.owned _ _ _
    rw [part_zero]
    exact made32 w n hn
  go_enter Try.func16, Try.ntmps16
  go_wp2_with fail
  go_loopg [4] n (fun gk v4 wx => ∃ (t : Nat), v4 = .int .i64 t ∧ t ≤ n ∧ gk = n - t ∧ Hid (Row.owned wx w.heap.size ⟨30, 1, some ⟨w.heap.size, 0, none⟩, n, n, segs .u32 (part os t) 0 n⟩ ∧ Below w.heap.size w wx))
  case atStart => exact ⟨0, rfl, Nat.zero_le _, rfl, H0.out, ⟨rfl, rfl, rfl, by simp, fun x hx => Below.heap_alloc _ _ x hx⟩⟩
  case round =>
    obtain ⟨t, rfl, htn, rfl, HR⟩ := hrel
    by_cases ht : t < n
    · have hti : (t : Int) < (n : Int) := by omega
      have hm : n - (t + 1) < n - t := by omega
      have Hbn := hb.out (by omega)
      have hbl : b ≠ w.heap.size := by omega
      have c0 : wr.cell? ⟨b, off + t, none⟩ = some (.int .u32 (os t)) := by
        rw [HR.out.2.cell Hbn]; exact h.out t ht
      have c1 := own_at HR.out.1 ht
      have fz := owned_frozen HR.out.1 t
      go_wp2_with fail
      go_roundg (n - (t + 1))
      case measure => exact hm
      case rel =>
        have hp := own_set HR.out.1 t (os t)
        rw [part_succ] at hp
        exact ⟨t + 1, by go_num, ht, rfl, hp, HR.out.2.trans (below_set _ _ _ (Nat.le_refl _))⟩
    · have hti : ¬ (t : Int) < (n : Int) := by omega
      have hte : t = n := by omega
      subst hte
      go_wp2_with fail
      go_ret
      have hp := HR.out.1
      rw [part_all] at hp
      exact ⟨rfl, hp, HR.out.2⟩

/-- what the walk is told of a slice of owners that came in -/
def IsRow32 (w : World) (a : Option Addr) (len cap : Nat) : Prop :=
  (a = none ∧ len = 0 ∧ cap = 0) ∨ ∃ (x : Addr) (zs : List Int), a = some x ∧ len ≤ cap ∧ cap ≤ maxLen ∧ zs.length = cap ∧ (∀ i, i < zs.length → w.cell? (x.add i) = some (.int .u32 (zs.getD i 0)))

theorem owners_any {w : World} {a : Option Addr} {n cap : Nat} (h : IsRow32 w a n cap) (hn : n ≤ 4096) : ∃ os : Nat → Int,
    Calls Try.prog 16 #[.slice a n cap] w fun e w' => ∃ ao, e = .returned (.slice ao n n) ∧ Hid (Row.owned w' w.heap.size ⟨30, 1, ao, n, n, segs .u32 os 0 n⟩) ∧ Below w.heap.size w w' := by
  rcases h with ⟨rfl, rfl, rfl⟩ | ⟨x, zs, rfl, hlc, hcm, hzl, hcell⟩
  · refine ⟨fun _ => 0, (owners_nil w).mono ?_⟩
    rintro e w' ⟨rfl, rfl⟩
    exact ⟨none, rfl, nilRow_owned _ _ 30 1, Below.refl _ _⟩
  · rcases Nat.eq_zero_or_pos n with h0 | h0
    · subst h0
      refine ⟨fun _ => 0, (owners_empty x cap w).mono ?_⟩
      rintro e w' ⟨rfl, ho, hb⟩
      exact ⟨_, rfl, ho, hb⟩
    · obtain ⟨b, off, rfl, hc⟩ := ints_at hcell (by omega)
      have hbl : b < w.heap.size := World.block_lt_of_cell? w ⟨b, off + 0, none⟩ (hc 0 (by omega))
      refine ⟨fun i => zs.getD i 0, (owners_some w b off n cap _ hn (fun i hi => hc i (by omega)) (fun _ => hbl)).mono ?_⟩
      rintro e w' ⟨rfl, ho, hb⟩
      exact ⟨_, rfl, ho, hb⟩

def bf (t : Nat) : Int := IntKind.u64.wrap (IntKind.u64.wrap ((t : Int) * 11400714819323198485) + 21845)
theorem bf_st (t : Nat) (ht : t ≤ 4096) (w : World) : Calls Try.prog 17 #[.int .i64 t] w fun e w' => e = .returned (.int .u64 (bf t)) ∧ w' = w := by
  have hcv := u64_nat t (by omega)
  go_enter Try.func17, Try.ntmps17
  go_wp2_with fail
  go_ret
  exact ⟨rfl, rfl⟩

def SaysBool (e : Ending) : Prop := ∃ bb, e = .returned (.bool bb)

theorem bytes4 (x0 x1 x2 x3 x4 : Value) (a5 a6 : Option Addr) (n5 c5 n6 c6 : Nat) (w : World) : Calls Try.prog 15 #[x0, x1, x2, x3, x4, .slice a5 n5 c5, .slice a6 n6 c6] w fun e w' => SaysBool e ∧ w' = w := by
  by_cases h1 : (1048576 : Int) < (n5 : Int)
  · go_enter Try.func15, Try.ntmps15
    go_wp2_with fail
    go_ret
    exact ⟨⟨_, rfl⟩, rfl⟩
  · have hw1 : wrap64 (n5 : Int) = (n5 : Int) := w64_nat n5 (by omega)
    by_cases h2 : (1048576 : Int) < (n6 : Int)
    · go_enter Try.func15, Try.ntmps15
      go_wp2_with fail
      go_ret
      exact ⟨⟨_, rfl⟩, rfl⟩
    · have hw2 : wrap64 ((n5 : Int) + (n6 : Int)) = (n5 : Int) + (n6 : Int) := by unfold wrap64; omega
      by_cases h3 : (1048576 : Int) < (n5 : Int) + (n6 : Int)
      · go_enter Try.func15, Try.ntmps15
        go_wp2_with fail
        go_ret
        exact ⟨⟨_, rfl⟩, rfl⟩
      · go_enter Try.func15, Try.ntmps15
        go_wp2_with fail
        go_ret
        exact ⟨⟨_, rfl⟩, rfl⟩

theorem IsSteps.below {w w1 : World} {a : Option Addr} {n cap : Nat} (h : IsSteps w a n cap) (hb : Below w.heap.size w w1) : IsSteps w1 a n cap := by
  rcases h with h | ⟨ad, q, h1, h2, h3, h4⟩
  · exact Or.inl h
  · refine Or.inr ⟨ad, q, h1, h2, h3, ?_⟩
    intro i hi
    obtain ⟨k0, k1, k2, k3⟩ := h4 i hi
    refine ⟨?_, ?_, ?_, k3⟩
    · rw [hb.cell (World.block_lt_of_cell? w _ k0)]; exact k0
    · rw [hb.cell (World.block_lt_of_cell? w _ k1)]; exact k1
    · rw [hb.cell (World.block_lt_of_cell? w _ k2)]; exact k2
end Go.Proofs.Qxb6603907a
