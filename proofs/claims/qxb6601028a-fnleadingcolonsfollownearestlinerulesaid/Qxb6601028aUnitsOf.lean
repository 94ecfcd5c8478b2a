import Derived.Test.Qxb6601028aDecodeWalks
import Derived.Lib.SlBytesConst
import Derived.Laws.BytesArg
namespace Go.Proofs.Qxb6601028a.Units
open Go.RowKit RowsKit

theorem str_eq {xs ys : List Int} (hx : ∀ x ∈ xs, 0 ≤ x ∧ x ≤ 255) (hy : ∀ y ∈ ys, 0 ≤ y ∧ y ≤ 255) : ((strOfNums xs).toList == (strOfNums ys).toList) = (xs == ys) := by
  rw [ByteArray.toList_eq, ByteArray.toList_eq, strOfNums_data, strOfNums_data]
  induction xs generalizing ys with
  | nil => cases ys <;> simp
  | cons x xs ih =>
    cases ys with
    | nil => simp
    | cons y ys =>
      have h1 := hx x List.mem_cons_self
      have h2 := hy y List.mem_cons_self
      have e : (UInt8.ofNat x.toNat == UInt8.ofNat y.toNat) = (x == y) := by
        rw [Bool.eq_iff_iff, beq_iff_eq, beq_iff_eq]
        constructor
        · intro h
          have h3 := congrArg UInt8.toNat h
          rw [UInt8.toNat_ofNat', UInt8.toNat_ofNat'] at h3
          omega
        · intro h; rw [h]
      simp only [List.map_cons, List.cons_beq_cons]
      rw [e, ih (fun z hz => hx z (List.mem_cons_of_mem _ hz)) (fun z hz => hy z (List.mem_cons_of_mem _ hz))]

theorem bequal_any (g1 g2 k c1 c2 : Nat) (xs ys : List Int) (w : World) (hx : xs.length = k) (hy : ys.length = k) (h1 : ∀ i, i < k → w.cell? ⟨g1, 0 + i, none⟩ = some (.int .u8 (xs.getD i 0))) (h2 : ∀ i, i < k → w.cell? ⟨g2, 0 + i, none⟩ = some (.int .u8 (ys.getD i 0)))
    (hbx : ∀ x ∈ xs, 0 ≤ x ∧ x ≤ 255) (hby : ∀ y ∈ ys, 0 ≤ y ∧ y ≤ 255) :
    Calls Try.prog 47 #[.slice (some ⟨g1, 0, none⟩) k c1, .slice (some ⟨g2, 0, none⟩) k c2] w fun e w' => e = .returned (.bool (xs == ys)) ∧ w' = w := by
  have e1 := run_convert_bytes_arg (P := Try.prog) w 23 5 Try.underlying23 Try.underlying5 g1 0 k c1 xs hx h1 9 Try.underlying9
  have e2 := run_convert_bytes_arg (P := Try.prog) w 23 5 Try.underlying23 Try.underlying5 g2 0 k c2 ys hy h2 9 Try.underlying9
  have e3 := str_eq hbx hby
  have E3 : Hid _ := e3
  clear e3 h1 h2 hbx hby hx hy
  go_enter Try.func47, Try.ntmps47
  go_wp2
  go_ret
  exact ⟨ret_bool E3.out, rfl⟩

set_option maxHeartbeats 1000000 in
theorem hasPrefix_any (g n gp k : Nat) (B : Nat → Int) (ps : List Int) (w : World) (hk : 0 < k) (hps : ps.length = k) (hB : Src w g n B) (hb : ∀ t, 0 ≤ B t ∧ B t ≤ 255) (hp : ∀ i, i < k → w.cell? ⟨gp, 0 + i, none⟩ = some (.int .u8 (ps.getD i 0))) (hbp : ∀ y ∈ ps, 0 ≤ y ∧ y ≤ 255) :
    Calls Try.prog 40 #[.slice (some ⟨g, 0, none⟩) n n, .slice (some ⟨gp, 0, none⟩) k k] w fun e w' => e = .returned (.bool (decide (k ≤ n) && (List.range k).map B == ps)) ∧ w' = w := by
  by_cases hkn : k ≤ n
  · have hki : (k : Int) ≤ (n : Int) := by omega
    have HE := fun (w' : World) (hw : w' = w) => bequal_any g gp k n k ((List.range k).map B) ps w' (by simp) hps (fun i hi => by
      subst hw
      rw [Nat.zero_add, hB i (by omega)]
      congr 2
      simp [List.getD, hi]) (by subst hw; exact hp) (by
      intro x hx
      obtain ⟨t, _, rfl⟩ := List.mem_map.1 hx
      exact hb t) hbp
    have HE' : Hid _ := HE
    clear HE hB hp hb hbp
    go_enter Try.func40, Try.ntmps40
    go_wp2_with fail
    refine (HE'.out _ rfl).mono ?_
    rintro e w' ⟨rfl, rfl⟩
    go_wp2_with fail
    go_ret
    exact ⟨ret_bool (by simp [hkn]), rfl⟩
  · have hki : ¬ (k : Int) ≤ (n : Int) := by omega
    clear hB hp hb hbp
    go_enter Try.func40, Try.ntmps40
    go_wp2_with fail
    go_ret
    exact ⟨ret_bool (by simp), rfl⟩

theorem kc23 (w : World) (C : Array Value) (n c g : Nat) (hg : g = w.heap.size) : (convert 23 23 (.slice (some ⟨g, 0, none⟩) n c)).run Try.prog (w.alloc (.cells C 5)) = .ok (.slice (some ⟨g, 0, none⟩) n c) (w.alloc (.cells C 5 (C.size, C.size + 1))) := by
  subst hg; exact Lib.run_convert_bytes_const w 23 5 C n c Try.underlying23 Try.underlying5

theorem mark_cells (w : World) (ps : List Int) (fr : Nat × Nat) (g : Nat) (hg : g = w.heap.size) : ∀ i, i < ps.length → (w.alloc (.cells (ps.map (Value.int .u8)).toArray 5 fr)).cell? ⟨g, 0 + i, none⟩ = some (.int .u8 (ps.getD i 0)) := by
  intro i hi
  subst hg
  rw [World.cell?_alloc_mark]
  simp [List.getD, hi]

theorem le_eq (n : Nat) (B : Nat → Int) : (decide (2 ≤ n) && (List.range 2).map B == [255, 254]) = isLE n B := by
  unfold isLE
  rw [show List.range 2 = [0, 1] from rfl]
  simp [Bool.and_assoc]
theorem be_eq (n : Nat) (B : Nat → Int) : (decide (2 ≤ n) && (List.range 2).map B == [254, 255]) = isBE n B := by
  unfold isBE
  rw [show List.range 2 = [0, 1] from rfl]
  simp [Bool.and_assoc]
theorem u8_eq (n : Nat) (B : Nat → Int) : (decide (3 ≤ n) && (List.range 3).map B == [239, 187, 191]) = isU8 n B := by
  unfold isU8
  rw [show List.range 3 = [0, 1, 2] from rfl]
  simp [Bool.and_assoc]
theorem bd2 (a b : Int) (ha : 0 ≤ a ∧ a ≤ 255) (hb : 0 ≤ b ∧ b ≤ 255) : ∀ y ∈ [a, b], 0 ≤ y ∧ y ≤ 255 := by
  intro y hy; simp at hy; rcases hy with rfl | rfl <;> assumption
theorem bd3 (a b c : Int) (ha : 0 ≤ a ∧ a ≤ 255) (hb : 0 ≤ b ∧ b ≤ 255) (hc : 0 ≤ c ∧ c ≤ 255) : ∀ y ∈ [a, b, c], 0 ≤ y ∧ y ≤ 255 := by
  intro y hy; simp at hy; rcases hy with rfl | rfl | rfl <;> assumption

set_option maxRecDepth 100000 in
set_option maxHeartbeats 1000000 in
theorem unitsOf_any (g n : Nat) (B : Nat → Int) (w : World) (hB : Src w g n B) (hg : g < w.heap.size) (hb : ∀ k, 0 ≤ B k ∧ B k ≤ 255) (st wd hi : Nat) (Hst : Hid (st = stOf n B)) (Hwd : Hid (wd = wdOf n B)) (Hhi : Hid (hi = hiOf n B)) :
    Calls Try.prog 31 #[.slice (some ⟨g, 0, none⟩) n n] w fun e w' => e = .returned (.agg #[.slice (some ⟨g, 0, none⟩) n n, .int .i64 st, .int .i64 wd, .int .i64 hi]) ∧ Below w.heap.size w w' := by
  have kc := kc23
  have Hb : Hid _ := hb
  clear hb
  go_enter Try.func31, Try.ntmps31
  go_wp2_with fail
  refine (hasPrefix_any g n (w.heap.size + 1) 2 B [255, 254] _ (by omega) rfl (by exact src_below (src_below hB (below1 _) hg) (below1 _) (by simp; omega)) Hb.out (by exact mark_cells _ [255, 254] _ _ (by simp)) (bd2 _ _ (by omega) (by omega))).mono ?_
  rintro e w1 ⟨rfl, hw1⟩
  rw [le_eq]
  subst hw1
  cases hLE : isLE n B
  · go_wp2_with fail
    refine (hasPrefix_any g n (w.heap.size + 2) 2 B [254, 255] _ (by omega) rfl (by exact src_below (src_below (src_below hB (below1 _) hg) (below1 _) (by simp; omega)) (below1 _) (by simp; omega)) Hb.out (by exact mark_cells _ [254, 255] _ _ (by simp)) (bd2 _ _ (by omega) (by omega))).mono ?_
    rintro e w1 ⟨rfl, hw1⟩
    rw [be_eq]
    subst hw1
    cases hBE : isBE n B
    · go_wp2_with fail
      refine (hasPrefix_any g n (w.heap.size + 3) 3 B [239, 187, 191] _ (by omega) rfl (by exact src_below (src_below (src_below (src_below hB (below1 _) hg) (below1 _) (by simp; omega)) (below1 _) (by simp; omega)) (below1 _) (by simp; omega)) Hb.out (by exact mark_cells _ [239, 187, 191] _ _ (by simp)) (bd3 _ _ _ (by omega) (by omega) (by omega))).mono ?_
      rintro e w1 ⟨rfl, hw1⟩
      rw [u8_eq]
      subst hw1
      cases hU8 : isU8 n B
      · go_wp2_with fail
        refine bodyPost_ret (v := .agg #[.slice (some ⟨g, 0, none⟩) n n, .int .i64 0, .int .i64 1, .int .i64 0]) (by simp [results, Try.results31, go_sem]) rfl ⟨?_, ?_⟩
        · rw [Hst.out, Hwd.out, Hhi.out]; simp [stOf, wdOf, hiOf, hLE, hBE, hU8]
        · exact (((((Below.refl _ _).alloc (Nat.le_refl _) _).alloc (by simp) _).alloc (by simp; omega) _).alloc (by simp; omega) _)
      · go_wp2_with fail
        refine bodyPost_ret (v := .agg #[.slice (some ⟨g, 0, none⟩) n n, .int .i64 3, .int .i64 1, .int .i64 0]) (by simp [results, Try.results31, go_sem]) rfl ⟨?_, ?_⟩
        · rw [Hst.out, Hwd.out, Hhi.out]; simp [stOf, wdOf, hiOf, hLE, hBE, hU8]
        · exact (((((Below.refl _ _).alloc (Nat.le_refl _) _).alloc (by simp) _).alloc (by simp; omega) _).alloc (by simp; omega) _)
    · go_wp2_with fail
      refine bodyPost_ret (v := .agg #[.slice (some ⟨g, 0, none⟩) n n, .int .i64 2, .int .i64 2, .int .i64 0]) (by simp [results, Try.results31, go_sem]) rfl ⟨?_, ?_⟩
      · rw [Hst.out, Hwd.out, Hhi.out]; simp [stOf, wdOf, hiOf, hLE, hBE]
      · exact ((((Below.refl _ _).alloc (Nat.le_refl _) _).alloc (by simp) _).alloc (by simp; omega) _)
  · go_wp2_with fail
    refine bodyPost_ret (v := .agg #[.slice (some ⟨g, 0, none⟩) n n, .int .i64 2, .int .i64 2, .int .i64 1]) (by simp [results, Try.results31, go_sem]) rfl ⟨?_, ?_⟩
    · rw [Hst.out, Hwd.out, Hhi.out]; simp [stOf, wdOf, hiOf, hLE]
    · exact (((Below.refl _ _).alloc (Nat.le_refl _) _).alloc (by simp) _)

end Go.Proofs.Qxb6601028a.Units
