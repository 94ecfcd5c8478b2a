import Derived.Test.Qxb6603907aScriptMem
namespace Go.Proofs.Qxb6603907a
open Go.RowKit RowsKit Blocks

theorem bytes3_yes (x y z : Value) (a : Option Addr) (n c : Nat) (w : World) (h : ¬ (1048576 : Int) < (n : Int)) : Calls Try.prog 5 #[x, y, z, .slice a n c] w fun e w' => e = .returned (.bool true) ∧ w' = w := by
  have hw : wrap64 (n : Int) = (n : Int) := w64_nat n (by omega)
  go_enter Try.func5, Try.ntmps5
  go_wp2_with fail
  go_ret
  exact ⟨rfl, rfl⟩
theorem bytes3_no (x y z : Value) (a : Option Addr) (n c : Nat) (w : World) (h : (1048576 : Int) < (n : Int)) : Calls Try.prog 5 #[x, y, z, .slice a n c] w fun e w' => e = .returned (.bool false) ∧ w' = w := by
  go_enter Try.func5, Try.ntmps5
  go_wp2_with fail
  go_ret
  exact ⟨rfl, rfl⟩

theorem run_make0b {P : Program} (t e : TypeId) (z : Value) (bytes : Nat) (ht : P.underlying t = some (.slice e)) (hinfo : (P.info? e).map (fun i => (i.zero, i.size, i.bytes)) = some (some z, 1, bytes)) (hz1 : z.cells = #[z]) (hb : bytes ≤ 24) (c : Nat) (hc : c ≤ 4194304) (w : World) :
    (Instr.makeSlice t (.int .i64 0) (.int .i64 (c : Int))).run P w = .ok (.slice (some ⟨w.heap.size, 0, none⟩) 0 c) (w.alloc (.cells (madeCells #[z] c) e)) := by
  obtain ⟨i, hi, hz0, hsize, hby⟩ := info_parts hinfo
  have h24 : bytes * c ≤ 24 * c := Nat.mul_le_mul_right _ hb
  have h9 : ((bytes * c : Nat) : Int) ≤ 281474976710656 := by omega
  rw [Int.natCast_mul] at h9
  have hr := run_make (P := P) w t e i z ht hi hz0 .i64 .i64 0 c (Int.le_refl _) (by omega) (by rw [hby]; exact h9) (by omega)
  simp only [Int.toNat_zero, Int.toNat_natCast, hsize, Nat.mul_one, hz1] at hr
  exact hr

/-- what the clone of the steps says -/
def OpsIn (w : World) (ao : Option Addr) (n : Nat) (pu : Nat → Bool) (ar : Nat → Nat) (fi : Nat → Int) : Prop :=
  0 < n → ∃ g cur, ao = some ⟨g, 0, none⟩ ∧ H33 w g cur ∧ ∀ i, i < n → cur[i * 3]? = some (.bool (pu i)) ∧ cur[i * 3 + 1]? = some (.int .u32 (ar i)) ∧ cur[i * 3 + 2]? = some (.int .u64 (fi i))

theorem OpsIn.step {w w' : World} {base B c N n : Nat} {ao : Option Addr} {pu : Nat → Bool} {ar : Nat → Nat} {fi : Nat → Int} {a b a' b' : D} (h : OpsIn w ao n pu ar fi) (hc : Cl w base B c N a b) (hst : CStep base B c a b a' b' w w') : OpsIn w' ao n pu ar fi := by
  intro h0
  obtain ⟨g, cur, e1, e2, e3⟩ := h h0
  exact ⟨g, cur, e1, e2.step hc hst, e3⟩
theorem OpsIn.ext {w w' : World} {n : Nat} {ao : Option Addr} {pu : Nat → Bool} {ar : Nat → Nat} {fi : Nat → Int} (h : OpsIn w ao n pu ar fi) (hb : Below w.heap.size w w') : OpsIn w' ao n pu ar fi := by
  intro h0
  obtain ⟨g, cur, e1, e2, e3⟩ := h h0
  exact ⟨g, cur, e1, e2.ext hb, e3⟩
theorem OpsIn.push {w w' : World} {base n m cap cap' : Nat} {e : TypeId} {k : IntKind} {ao ao1 ao' : Option Addr} {pu : Nat → Bool} {ar : Nat → Nat} {fi f : Nat → Int} {v : Int} (h : OpsIn w ao n pu ar fi) (hp : Pushed w w' base e k ao1 ao' m cap' f v) (hown : Row.owned w base ⟨e, 1, ao1, m, cap, segs k f 0 m⟩) (he : e ≠ 33) : OpsIn w' ao n pu ar fi := by
  intro h0
  obtain ⟨g, cur, e1, e2, e3⟩ := h h0
  exact ⟨g, cur, e1, e2.push hp hown he, e3⟩
theorem H33.ne_row {w : World} {base g g1 : Nat} {cur : Array Value} {r : Row} (h : H33 w g cur) (hown : Row.owned w base r) (he : r.e ≠ 33) (hr : r.ao.map (·.block) = some g1) : g ≠ g1 := by
  rintro rfl
  obtain ⟨_, _, cur', h1⟩ := own_blk hown hr
  rw [show w.heap[g]? = some (.cells cur 33 (0, 0)) from h] at h1
  simp only [Option.some.injEq, Obj.cells.injEq] at h1
  exact he h1.2.1.symm
theorem H33.set {w : World} {g g1 j : Nat} {cur : Array Value} {v : Value} (h : H33 w g cur) (hne : g ≠ g1) : H33 (w.setCell ⟨g1, j, none⟩ v) g cur := (heap_setCell_other _ _ _ _ hne).trans h
theorem OpsIn.set2 {w : World} {base n j1 j2 g1 g2 : Nat} {ao : Option Addr} {pu : Nat → Bool} {ar : Nat → Nat} {fi : Nat → Int} {v1 v2 : Value} {r1 r2 : Row} (h : OpsIn w ao n pu ar fi) (h1 : Row.owned w base r1) (h2 : Row.owned w base r2) (he1 : r1.e ≠ 33) (he2 : r2.e ≠ 33) (hr1 : r1.ao.map (·.block) = some g1) (hr2 : r2.ao.map (·.block) = some g2) : OpsIn ((w.setCell ⟨g1, j1, none⟩ v1).setCell ⟨g2, j2, none⟩ v2) ao n pu ar fi := by
  intro h0
  obtain ⟨g, cur, e1, e2, e3⟩ := h h0
  exact ⟨g, cur, e1, (e2.set (e2.ne_row h1 he1 hr1)).set (e2.ne_row h2 he2 hr2), e3⟩
def opc (p : Bool) (x y : Int) : Array Value := #[.bool p, .int .u32 x, .int .u64 y]

theorem Try.zero33 : (Try.prog.info? 33).map (·.zero) = some (some (.agg #[.bool false, .int .u32 0, .int .u64 0])) := by kernel_rfl
theorem run_zero33 (w : World) : (zeroValue 33).run Try.prog w = .ok (.agg #[.bool false, .int .u32 0, .int .u64 0]) w := by
  obtain ⟨i, hi, hz⟩ := Option.map_eq_some_iff.1 Try.zero33
  simp [zeroValue, typeInfo, hi, hz]

set_option maxRecDepth 100000 in
set_option maxHeartbeats 4000000 in
theorem script_rest (w : World) (c s1 s2 n cap : Nat) (a0 : Option Addr) (pu : Nat → Bool) (ar : Nat → Nat) (fi : Nat → Int) (hc : c ≤ 20) (hs1 : s1 ≤ 20) (hs2 : s2 ≤ 20) (hcs : c ≤ s1) (hn : n ≤ 4096) (hp : Hid (n * 2 ^ c ≤ 1048576)) (har : Hid (∀ i, ar i ≤ 4294967295))
    (hcl : Calls Try.prog 6 #[.slice a0 n cap] w fun e w' => ∃ ao, e = .returned (.slice ao n n) ∧ Hid (OpsIn w' ao n pu ar fi) ∧ Below w.heap.size w w') :
    Calls Try.prog 3 #[.int .u8 c, .int .u8 s1, .int .u8 s2, .slice a0 n cap] w fun e w' => e = .returned (.bool true) ∧ Below w.heap.size w w' := by
  have h1 : ¬ (1048576 : Int) < (n : Int) := by omega
  have h2 : ¬ (4096 : Int) < (n : Int) := by omega
  have h3 : ¬ (20 : Int) < (c : Int) := by omega
  have h4 : ¬ (20 : Int) < (s1 : Int) := by omega
  have h5 : ¬ (20 : Int) < (s2 : Int) := by omega
  have h6 : ¬ (s1 : Int) < (c : Int) := by omega
  have hk0 : (0 : Int) ≤ (c : Int) := by omega
  have hk1 : (c : Int) ≤ 64 := by omega
  obtain ⟨p, hpe⟩ : ∃ p, p = n * 2 ^ c := ⟨_, rfl⟩
  have hpb : p ≤ 1048576 := by rw [hpe]; exact hp.out
  have hm1 := (mul_shl n c p hpe (by omega)).1
  have hm2 := (mul_shl n c p hpe (by omega)).2
  have h7 : ¬ (1048576 : Int) < (p : Int) := by omega
  have hmk1 := run_make0b (P := Try.prog) 28 30 (.int .u32 0) 4 Try.underlying28 Try.info30 rfl (by decide) n (by omega)
  have hmk2 := run_make0b (P := Try.prog) 29 31 (.int .u64 0) 8 Try.underlying29 Try.info31 rfl (by decide) n (by omega)
  have Hcl : Hid (Calls Try.prog 6 #[.slice a0 n cap] w fun e w' => ∃ ao, e = .returned (.slice ao n n) ∧ Hid (OpsIn w' ao n pu ar fi) ∧ Below w.heap.size w w') := hcl
  clear hcl hpe
  go_enter Try.func3, Try.ntmps3
  go_wp2_with fail
  refine (bytes3_yes _ _ _ _ _ _ _ (by omega)).mono ?_
  rintro _ w0 ⟨rfl, hw0⟩
  rw [hw0]
  clear hw0
  go_wp2_with fail
  refine Calls.mono Hcl.out ?_
  rintro _ w1 ⟨ao, rfl, HO1, hb1⟩
  have HB1 : Hid (Below w.heap.size w w1) := hb1
  clear hb1 hm1 hm2 h1 h2 h3 h4 h5 h6 h7 Hcl
  go_wp2_with fail
  refine (new_st w1).mono ?_
  rintro _ w2 ⟨rfl, hz, hbx, hb2, hsz⟩
  obtain ⟨B, hB⟩ : ∃ B, B = w1.heap.size := ⟨_, rfl⟩
  rw [← hB] at hz hbx hb2 hsz
  have HZ : Hid (Zeroed w2 B ∧ Box w2 B ∧ Below B w1 w2 ∧ B < w2.heap.size ∧ w.heap.size ≤ B) := ⟨hz, hbx, hb2, hsz, by rw [hB]; exact HB1.out.size⟩
  rw [← hB]
  have HO2 : Hid (OpsIn w2 ao n pu ar fi) := by
    intro h0
    obtain ⟨g, cur, e1, e2, e3⟩ := HO1.out h0
    exact ⟨g, cur, e1, e2.ext (by rw [← hB]; exact HZ.out.2.2.1), e3⟩
  have HB2 : Hid (Below w.heap.size w w2) := HB1.out.trans (HZ.out.2.2.1.mono HZ.out.2.2.2.2)
  clear hz hbx hb2 hsz hB HO1 HB1
  have z1 := (HZ.out.1 (c * 2) (by omega)).1
  have z2 := (HZ.out.1 (c * 2 + 1) (by omega)).1
  rw [show c * 2 * 3 = c * 6 by omega] at z1
  rw [show (c * 2 + 1) * 3 = c * 6 + 3 by omega] at z2
  go_wp2_with fail
  refine (set_st w2 B c s1 s2 hc _ _ z1 z2 HZ.out.2.1.frozen).mono ?_
  rintro _ w3 ⟨rfl, hw3⟩
  have hfc := first_class (s1 := s1) (s2 := s2) HZ.out.1 HZ.out.2.1 HZ.out.2.2.2.2 hcs hs1 hs2
  rw [← hw3] at hfc
  have HC3 : Hid (Cl w3 w.heap.size B c 0 (D0 s1) (D0 s2)) := hfc.1
  have HB3 : Hid (Below w.heap.size w w3) := HB2.out.trans hfc.2.1
  have HO3 : Hid (OpsIn w3 ao n pu ar fi) := by
    intro h0
    obtain ⟨g, cur, e1, e2, e3⟩ := HO2.out h0
    refine ⟨g, cur, e1, ?_, e3⟩
    have hgB : g ≠ B := by
      rintro rfl
      obtain ⟨cs, q1, _⟩ := HZ.out.2.1
      rw [show w2.heap[g]? = some (.cells cur 33 (0, 0)) from e2] at q1
      simp at q1
    show w3.heap[g]? = _
    rw [hw3, heap_setCell_other _ _ _ _ hgB, heap_setCell_other _ _ _ _ hgB]
    exact e2
  clear hfc hw3 z1 z2 HO2 HB2 HZ
  -- the law's own two rows
  have HK : Hid (K2 ((w3.alloc (.cells (madeCells #[.int .u32 0] n) 30)).alloc (.cells (madeCells #[.int .u64 0] n) 31)) w.heap.size B c 0 0 0 n n (some ⟨w3.heap.size, 0, none⟩) (some ⟨w3.heap.size + 1, 0, none⟩) (fun _ => 0) (fun _ => 0) (D0 s1) (D0 s2) ∧ Below w.heap.size w ((w3.alloc (.cells (madeCells #[.int .u32 0] n) 30)).alloc (.cells (madeCells #[.int .u64 0] n) 31)) ∧ OpsIn ((w3.alloc (.cells (madeCells #[.int .u32 0] n) 30)).alloc (.cells (madeCells #[.int .u64 0] n) 31)) ao n pu ar fi) := by
    have hsz := HB3.out.size
    have bb : Below w3.heap.size w3 ((w3.alloc (.cells (madeCells #[.int .u32 0] n) 30)).alloc (.cells (madeCells #[.int .u64 0] n) 31)) := ⟨rfl, rfl, rfl, by simp; omega, fun x hx => heap_two hx _ _⟩
    have m1 : Row.owned (w3.alloc (.cells (madeCells #[.int .u32 0] n) 30)) w.heap.size ⟨30, 1, some ⟨w3.heap.size, 0, none⟩, 0, n, []⟩ := made_row hsz (by unfold maxLen; omega) 30 _
    have m2 : Row.owned ((w3.alloc (.cells (madeCells #[.int .u32 0] n) 30)).alloc (.cells (madeCells #[.int .u64 0] n) 31)) w.heap.size ⟨31, 1, some ⟨(w3.alloc (.cells (madeCells #[.int .u32 0] n) 30)).heap.size, 0, none⟩, 0, n, []⟩ := made_row (by rw [World.size_alloc]; omega) (by unfold maxLen; omega) 31 _
    rw [World.size_alloc] at m2
    refine ⟨⟨HC3.out.keepGrown none (fun x hx _ => bb.block x hx) (fun e => by cases e) (fun x e => by cases e), World.ownsRow.alloc m1 _, m2, ?_, ?_⟩, HB3.out.trans (bb.mono hsz), ?_⟩
    · intro x _ hb
      rcases hb with hb | hb <;> exact d0_bl _ _ hb
    · intro x _ hb
      rcases hb with hb | hb <;> exact d0_bl _ _ hb
    · intro h0
      obtain ⟨g, cur, e1, e2, e3⟩ := HO3.out h0
      exact ⟨g, cur, e1, e2.ext bb, e3⟩
  go_wp2_with fail
  clear HC3 HB3 HO3 hmk1 hmk2 hk0 hk1 hpb
  have hz33 := run_zero33
  go_loopg [10, 11, 12] n (fun gk v10 v11 v12 wx => ∃ (t N cap1 cap2 : Nat) (ao1 ao2 : Option Addr) (os fs : Nat → Int) (a b : D), v10 = .slice ao1 N cap1 ∧ v11 = .slice ao2 N cap2 ∧ v12 = .int .i64 t ∧ t ≤ n ∧ N ≤ t ∧ gk = n - t ∧ Hid (Kept wx w.heap.size B c N cap1 cap2 ao1 ao2 os fs a b ∧ Below w.heap.size w wx ∧ OpsIn wx ao n pu ar fi))
  case atStart => exact ⟨0, 0, n, n, _, _, _, _, _, _, rfl, rfl, rfl, Nat.zero_le _, Nat.le_refl _, rfl, HK.out.1.kept (fun i hi => absurd hi (Nat.not_lt_zero i)), HK.out.2.1, HK.out.2.2⟩
  case round =>
    obtain ⟨t, N, cap1, cap2, ao1, ao2, os, fs, a, b, rfl, rfl, rfl, htn, hNt, rfl, HR⟩ := hrel
    clear HK
    by_cases ht : t < n
    · have hti : (t : Int) < (n : Int) := by omega
      obtain ⟨g, cur, e1, e2, e3⟩ := HR.out.2.2 (Nat.lt_of_le_of_lt (Nat.zero_le _) ht)
      subst e1
      have c0 : wr.cell? ⟨g, t * 3, none⟩ = some (.bool (pu t)) := (e2.cell _).trans (e3 t ht).1
      have c1 : wr.cell? ⟨g, t * 3 + 1, none⟩ = some (.int .u32 (ar t)) := (e2.cell _).trans (e3 t ht).2.1
      have c2 : wr.cell? ⟨g, t * 3 + 2, none⟩ = some (.int .u64 (fi t)) := (e2.cell _).trans (e3 t ht).2.2
      have hgl : g ≠ wr.heap.size := Nat.ne_of_lt e2.lt
      clear e2 e3
      go_upto_region 20 with fail
      obtain ⟨H, hH⟩ : ∃ x, x = wr.heap.size := ⟨_, rfl⟩
      obtain ⟨w4, hw4⟩ : ∃ x, x = wr.alloc (.cells #[.bool (pu t), .int .u32 (ar t), .int .u64 (fi t)] 33) := ⟨_, rfl⟩
      rw [← hw4, ← hH]
      have hb4 : Below wr.heap.size wr w4 := by rw [hw4]; exact ⟨rfl, rfl, rfl, by simp, fun x hx => Below.heap_alloc _ _ x hx⟩
      have HH : Hid (H33 w4 H (opc (pu t) (ar t) (fi t))) := by
        show w4.heap[H]? = _
        rw [hw4, hH]; exact heap_alloc_new wr _
      have HK4 : Hid (K2 w4 w.heap.size B c N N N cap1 cap2 ao1 ao2 os fs a b) := HR.out.1.k2.ext hb4
      have HM : Hid (Mod c N a b os fs) := HR.out.1.md
      have HB4 : Hid (Below w.heap.size w w4) := HR.out.2.1.trans (hb4.mono HR.out.2.1.size)
      have HO4 : Hid (OpsIn w4 (some ⟨g, 0, none⟩) n pu ar fi) := HR.out.2.2.ext hb4
      clear hb4 hw4 hH c0 c1 c2 hgl HR
      have Hn : Hid (N * 2 ^ c ≤ 1048576 ∧ (N + 1) * 2 ^ c ≤ 1048576) := by
        have q1 : (N + 1) * 2 ^ c ≤ n * 2 ^ c := Nat.mul_le_mul_right _ (by omega)
        have q2 : N * 2 ^ c ≤ (N + 1) * 2 ^ c := Nat.mul_le_mul_right _ (by omega)
        exact ⟨Nat.le_trans q2 (Nat.le_trans q1 hp.out), Nat.le_trans q1 hp.out⟩
      have d0 : w4.cell? ⟨H, 0, none⟩ = some (.bool (pu t)) := HH.out.cell 0
      have d1 : w4.cell? ⟨H, 1, none⟩ = some (.int .u32 (ar t)) := HH.out.cell 1
      have hmeas : n - (t + 1) < n - t := by omega
      cases hpu : pu t
      · rw [hpu] at d0
        have hcv := k64_nat N (by omega)
        have hcv2 := u32_nat N (by omega)
        have hNN : ((N : Int) != (N : Int)) = false := by simp
        go_wp2_with fail
        refine (zzget w4 _ _ _ _ (get_st w4 w.heap.size B c N (ar t) a b HK4.out.cl Hn.out.1) (fun e w' hq => ⟨_, hq.1⟩)).mono ?_
        rintro _ w5 ⟨rfl, a5, b5, h5⟩
        have G5 : Hid (Cl w5 w.heap.size B c (N + 1) a5 b5 ∧ CStep w.heap.size B c a b a5 b5 w4 w5 ∧ a5.s = a.s ∧ b5.s = b.s ∧ (∀ i, i < N * 2 ^ c → a5.f i = a.f i) ∧ (∀ i, i < N → b5.f i = b.f i) ∧ b5.f N = ar t) := h5
        clear h5 d0 d1
        have HH5 : Hid (H33 w5 H (opc (pu t) (ar t) (fi t))) := HH.out.step HK4.out.cl G5.out.2.1
        have d2 : w5.cell? ⟨H, 2, none⟩ = some (.int .u64 (fi t)) := HH5.out.cell 2
        have HK5 : Hid (K2 w5 w.heap.size B c (N + 1) N N cap1 cap2 ao1 ao2 os fs a5 b5) := HK4.out.step G5.out.2.1 G5.out.1
        have HO5 : Hid (OpsIn w5 (some ⟨g, 0, none⟩) n pu ar fi) := HO4.out.step HK4.out.cl G5.out.2.1
        have HB5 : Hid (Below w.heap.size w w5) := HB4.out.trans G5.out.2.1.below
        go_wp2_with fail
        refine (fill_st w5 w.heap.size B c (N + 1) N (fi t) a5 b5 G5.out.1 Hn.out.2 (Nat.lt_succ_self N)).mono ?_
        rintro _ w6 ⟨rfl, a6, h6⟩
        have G6 : Hid (Cl w6 w.heap.size B c (N + 1) a6 b5 ∧ CStep w.heap.size B c a5 b5 a6 b5 w5 w6 ∧ a6.s = a5.s ∧ BH a6 c N (fi t) ∧ FillE a5 a6 c N) := h6
        clear h6 d2
        have HH6 : Hid (H33 w6 H (opc (pu t) (ar t) (fi t))) := HH5.out.step G5.out.1 G6.out.2.1
        have d1 : w6.cell? ⟨H, 1, none⟩ = some (.int .u32 (ar t)) := HH6.out.cell 1
        have HK6 : Hid (K2 w6 w.heap.size B c (N + 1) N N cap1 cap2 ao1 ao2 os fs a6 b5) := HK5.out.step G6.out.2.1 G6.out.1
        have HO6 : Hid (OpsIn w6 (some ⟨g, 0, none⟩) n pu ar fi) := HO5.out.step G5.out.1 G6.out.2.1
        have HB6 : Hid (Below w.heap.size w w6) := HB5.out.trans G6.out.2.1.below
        have HM6 : Hid (Mod c (N + 1) a6 b5 (upd os N (ar t)) (upd fs N (fi t))) := HM.out.get (ar t) (fi t) G5.out.2.2.2.2.1 G5.out.2.2.2.2.2.1 G5.out.2.2.2.2.2.2 G6.out.2.2.2.1 G6.out.2.2.2.2
        have hN20 : N ≤ 1048576 := by omega
        have hs6 : w.heap.size ≤ w6.heap.size := HB6.out.size
        go_wp2_with (at_builtin; refine app32 w6 rfl (.tmp 93) (.tmp 96) rfl w.heap.size ao1 N cap1 os (ar t) rfl HK6.out.r1 rfl hN20 hs6 ?_)
        intro ao1' cap1' w7 hp7
        have HP7 : Hid (Pushed w6 w7 w.heap.size 30 .u32 ao1 ao1' N cap1' os (ar t)) := hp7
        clear hp7
        have HH7 : Hid (H33 w7 H (opc (pu t) (ar t) (fi t))) := HH6.out.push HP7.out HK6.out.r1 (by decide)
        have HK7 : Hid (K2 w7 w.heap.size B c (N + 1) (N + 1) N cap1' cap2 ao1' ao2 (upd os N (ar t)) fs a6 b5) := HK6.out.app1 HP7.out
        have HO7 : Hid (OpsIn w7 (some ⟨g, 0, none⟩) n pu ar fi) := HO6.out.push HP7.out HK6.out.r1 (by decide)
        have HB7 : Hid (Below w.heap.size w w7) := HB6.out.trans HP7.out.below
        have d2 : w7.cell? ⟨H, 2, none⟩ = some (.int .u64 (fi t)) := HH7.out.cell 2
        have hs7 : w.heap.size ≤ w7.heap.size := HB7.out.size
        clear d1 hs6
        go_wp2_with (at_builtin; refine app64 w7 rfl (.tmp 98) (.tmp 101) rfl w.heap.size ao2 N cap2 fs (fi t) rfl HK7.out.r2 rfl hN20 hs7 ?_)
        intro ao2' cap2' w8 hp8
        have HP8 : Hid (Pushed w7 w8 w.heap.size 31 .u64 ao2 ao2' N cap2' fs (fi t)) := hp8
        clear hp8
        have HK8 : Hid (K2 w8 w.heap.size B c (N + 1) (N + 1) (N + 1) cap1' cap2' ao1' ao2' (upd os N (ar t)) (upd fs N (fi t)) a6 b5) := HK7.out.app2 HP8.out
        have HO8 : Hid (OpsIn w8 (some ⟨g, 0, none⟩) n pu ar fi) := HO7.out.push HP8.out HK7.out.r2 (by decide)
        have HB8 : Hid (Below w.heap.size w w8) := HB7.out.trans HP8.out.below
        go_wp2_with fail
        go_roundg (n - (t + 1))
        case measure => exact hmeas
        case rel => exact ⟨t + 1, N + 1, cap1', cap2', ao1', ao2', _, _, a6, b5, rfl, rfl, by go_num, ht, by omega, rfl, HK8.out.kept HM6.out, HB8.out, HO8.out⟩
      · rw [hpu] at d0
        have hcva := k64_nat (ar t) (Nat.le_trans (har.out t) (by decide))
        by_cases hge : N ≤ ar t
        · have hgei : (N : Int) ≤ (ar t : Int) := by omega
          go_wp2_with fail
          go_roundg (n - (t + 1))
          case measure => exact hmeas
          case rel => exact ⟨t + 1, N, cap1, cap2, ao1, ao2, os, fs, a, b, rfl, rfl, by go_num, ht, by omega, rfl, HK4.out.kept HM.out, HB4.out, HO4.out⟩
        · have hgei : (ar t : Int) < (N : Int) := by omega
          obtain ⟨l, hl⟩ : ∃ l, N = l + 1 := ⟨N - 1, by omega⟩
          have Hl : Hid (N = l + 1 ∧ ar t ≤ l ∧ l ≤ t + 1) := ⟨hl, by omega, by omega⟩
          have hK := HK4.out.kept HM.out
          rw [hl] at hK
          obtain ⟨g1, g2, e1, e2⟩ := hK.addrs
          have hp1 := (pred_int N l hl (by omega)).1
          have hp2 := (pred_int N l hl (by omega)).2
          have hli : (l : Int) < (N : Int) := by omega
          have hcap1 : (l : Int) ≤ (cap1 : Int) := by have := (cap_ge hK.r1).1; omega
          have hcap2 : (l : Int) ≤ (cap2 : Int) := by have := (cap_ge hK.r2).1; omega
          have hc1 : w4.cell? ⟨g1, l, none⟩ = some (.int .u32 (os l)) := by
            have q1 := hK.r1
            rw [e1] at q1
            exact own_at q1 (Nat.lt_succ_self l)
          have hgone := hK.md.gone (b0 := ar t)
          have hput := zzput w4 _ _ _ _ (put_st w4 w.heap.size B c N l (ar t) a b HK4.out.cl Hn.out.1 hl Hl.out.2.1) (fun e w' hq => ⟨_, hq.1⟩)
          have HK : Hid (Kept w4 w.heap.size B c (l + 1) cap1 cap2 ao1 ao2 os fs a b) := hK
          clear hK hl hge
          subst e1
          subst e2
          have hss : (os l != os l) = false := by simp
          by_cases hbl : ar t = l
          · rw [if_pos hbl] at hgone
            rw [hgone] at hput
            have t1 : ((ar t : Int) != (l : Int)) = false := by rw [hbl]; simp
            clear hgone hbl
            go_wp2_with fail
            refine hput.mono ?_
            rintro _ w5 ⟨rfl, a5, b5, h5⟩
            have HP := HK.out.put h5.2.1 h5.1 h5.2.2.2.2.1 h5.2.2.2.2.2
            have HH5 : Hid (H33 w5 H (opc (pu t) (ar t) (fi t))) := HH.out.step HK4.out.cl h5.2.1
            have HB5 : Hid (Below w.heap.size w w5) := HB4.out.trans h5.2.1.below
            have HO5 : Hid (OpsIn w5 (some ⟨g, 0, none⟩) n pu ar fi) := HO4.out.step HK4.out.cl h5.2.1
            have HK5 : Hid (K2 w5 w.heap.size B c l N N cap1 cap2 (some ⟨g1, 0, none⟩) (some ⟨g2, 0, none⟩) os fs a5 b5) := HK4.out.step h5.2.1 h5.1
            have d1 : w5.cell? ⟨H, 1, none⟩ = some (.int .u32 (ar t)) := HH5.out.cell 1
            have x1 := HP.1 l (Nat.lt_succ_self l)
            have x2 := HP.2.1 l (Nat.lt_succ_self l)
            have x10 := HP.1 (ar t) (Nat.lt_succ_of_le Hl.out.2.1)
            have x20 := HP.2.1 (ar t) (Nat.lt_succ_of_le Hl.out.2.1)
            have f1 := HP.2.2.1
            have f2 := HP.2.2.2.1
            have hne : g1 ≠ g2 := HP.2.2.2.2.1
            have hne' : g2 ≠ g1 := fun e => hne e.symm
            have hH1 : H ≠ g1 := HH5.out.ne_row HK5.out.r1 (show (30 : TypeId) ≠ 33 by decide) rfl
            have hH2 : H ≠ g2 := HH5.out.ne_row HK5.out.r2 (show (31 : TypeId) ≠ 33 by decide) rfl
            have HQ : Hid (Below w.heap.size w5 ((w5.setCell ⟨g1, ar t, none⟩ (.int .u32 (os l))).setCell ⟨g2, ar t, none⟩ (.int .u64 (fs l))) ∧ Kept ((w5.setCell ⟨g1, ar t, none⟩ (.int .u32 (os l))).setCell ⟨g2, ar t, none⟩ (.int .u64 (fs l))) w.heap.size B c l cap1 cap2 (some ⟨g1, 0, none⟩) (some ⟨g2, 0, none⟩) (upd os (ar t) (os l)) (upd fs (ar t) (fs l)) a5 b5 ∧ OpsIn ((w5.setCell ⟨g1, ar t, none⟩ (.int .u32 (os l))).setCell ⟨g2, ar t, none⟩ (.int .u64 (fs l))) (some ⟨g, 0, none⟩) n pu ar fi) := ⟨HP.2.2.2.2.2.1, HP.2.2.2.2.2.2, HO5.out.set2 HK5.out.r1 HK5.out.r2 (show (30 : TypeId) ≠ 33 by decide) (show (31 : TypeId) ≠ 33 by decide) rfl rfl⟩
            clear HP h5 hput d0
            go_wp2_with fail
            go_quiet (fail)
            go_wp2_with fail
            go_roundg (n - (t + 1))
            case measure => exact hmeas
            case rel =>
              have hk := HQ.out.2.1
              exact ⟨t + 1, l, cap1, cap2, _, _, _, _, a5, b5, rfl, rfl, by go_num, ht, Hl.out.2.2, rfl, (hk.k2.ext (below_draws _ _)).kept hk.md, (HB5.out.trans HQ.out.1).trans (below_draws _ _), HQ.out.2.2.ext (below_draws _ _)⟩
          · rw [if_neg hbl] at hgone
            rw [hgone] at hput
            have t1 : ((ar t : Int) != (l : Int)) = true := by simp only [bne_iff_ne, ne_eq, Int.natCast_inj]; exact hbl
            have hlt : ar t < l := Nat.lt_of_le_of_ne Hl.out.2.1 hbl
            have hlti : (ar t : Int) < (l : Int) := Int.ofNat_lt.2 hlt
            have Hlt : Hid (ar t < l) := hlt
            clear hgone hbl hlt
            go_wp2_with fail
            refine hput.mono ?_
            rintro _ w5 ⟨rfl, a5, b5, h5⟩
            have HP := HK.out.put h5.2.1 h5.1 h5.2.2.2.2.1 h5.2.2.2.2.2
            have HH5 : Hid (H33 w5 H (opc (pu t) (ar t) (fi t))) := HH.out.step HK4.out.cl h5.2.1
            have HB5 : Hid (Below w.heap.size w w5) := HB4.out.trans h5.2.1.below
            have HO5 : Hid (OpsIn w5 (some ⟨g, 0, none⟩) n pu ar fi) := HO4.out.step HK4.out.cl h5.2.1
            have HK5 : Hid (K2 w5 w.heap.size B c l N N cap1 cap2 (some ⟨g1, 0, none⟩) (some ⟨g2, 0, none⟩) os fs a5 b5) := HK4.out.step h5.2.1 h5.1
            have d1 : w5.cell? ⟨H, 1, none⟩ = some (.int .u32 (ar t)) := HH5.out.cell 1
            have x1 := HP.1 l (Nat.lt_succ_self l)
            have x2 := HP.2.1 l (Nat.lt_succ_self l)
            have x10 := HP.1 (ar t) (Nat.lt_succ_of_le Hl.out.2.1)
            have x20 := HP.2.1 (ar t) (Nat.lt_succ_of_le Hl.out.2.1)
            have f1 := HP.2.2.1
            have f2 := HP.2.2.2.1
            have hne : g1 ≠ g2 := HP.2.2.2.2.1
            have hne' : g2 ≠ g1 := fun e => hne e.symm
            have hH1 : H ≠ g1 := HH5.out.ne_row HK5.out.r1 (show (30 : TypeId) ≠ 33 by decide) rfl
            have hH2 : H ≠ g2 := HH5.out.ne_row HK5.out.r2 (show (31 : TypeId) ≠ 33 by decide) rfl
            have HQ : Hid (Below w.heap.size w5 ((w5.setCell ⟨g1, ar t, none⟩ (.int .u32 (os l))).setCell ⟨g2, ar t, none⟩ (.int .u64 (fs l))) ∧ Kept ((w5.setCell ⟨g1, ar t, none⟩ (.int .u32 (os l))).setCell ⟨g2, ar t, none⟩ (.int .u64 (fs l))) w.heap.size B c l cap1 cap2 (some ⟨g1, 0, none⟩) (some ⟨g2, 0, none⟩) (upd os (ar t) (os l)) (upd fs (ar t) (fs l)) a5 b5 ∧ OpsIn ((w5.setCell ⟨g1, ar t, none⟩ (.int .u32 (os l))).setCell ⟨g2, ar t, none⟩ (.int .u64 (fs l))) (some ⟨g, 0, none⟩) n pu ar fi) := ⟨HP.2.2.2.2.2.1, HP.2.2.2.2.2.2, HO5.out.set2 HK5.out.r1 HK5.out.r2 (show (30 : TypeId) ≠ 33 by decide) (show (31 : TypeId) ≠ 33 by decide) rfl rfl⟩
            clear HP h5 hput d0
            go_wp2_with fail
            have hW : ∃ W3, W3 = ((w5.setCell ⟨g1, ar t, none⟩ (.int .u32 (os l))).setCell ⟨g2, ar t, none⟩ (.int .u64 (fs l))) := ⟨_, rfl⟩
            obtain ⟨W3, hW3⟩ := hW
            rw [← hW3] at HQ ⊢
            have y1 : W3.cell? ⟨H, 1, none⟩ = some (.int .u32 (ar t)) := by
              rw [hW3]
              exact ((HH5.out.set hH1).set hH2).cell 1
            have y2 : W3.cell? ⟨g2, ar t, none⟩ = some (.int .u64 (fs l)) := by
              have q1 := HQ.out.2.1.r2
              rw [own_at q1 Hlt.out, upd_same]
            have HlN : Hid (l * 2 ^ c ≤ 1048576) := Nat.le_trans (Nat.mul_le_mul_right _ (by have := Hl.out.1; omega)) Hn.out.1
            have Hho : Hid (∀ m, Calls Try.prog 12 #[.pointer (some ⟨B, 0, none⟩), .int .u8 c, .int .u32 (ar t), .int .u64 (fs l)] (W3.drewN m) fun e w' => e = .returned (.bool true) ∧ ∃ k, w' = (W3.drewN m).drewN k) := fun m => holds_st (W3.drewN m) w.heap.size B c l (ar t) (fs l) a5 b5 (HQ.out.2.1.cl.same rfl) HlN Hlt (by have q5 := (HQ.out.2.1.md (ar t) Hlt.out).2; rw [upd_same] at q5; exact q5)
            clear hW3 x1 x2 x10 x20 f1 f2 d1 hc1
            go_quiet (exact Calls.quiet_of (Hho.out _))
            go_wp2_with fail
            go_roundg (n - (t + 1))
            case measure => exact hmeas
            case rel =>
              have hk := HQ.out.2.1
              exact ⟨t + 1, l, cap1, cap2, _, _, _, _, a5, b5, rfl, rfl, by go_num, ht, Hl.out.2.2, rfl, (hk.k2.ext (below_draws _ _)).kept hk.md, (HB5.out.trans HQ.out.1).trans (below_draws _ _), HQ.out.2.2.ext (below_draws _ _)⟩
    · have hti : ¬ (t : Int) < (n : Int) := by omega
      have HNN : Hid (N * 2 ^ c ≤ 1048576) := Nat.le_trans (Nat.mul_le_mul_right _ (Nat.le_trans hNt htn)) hp.out
      go_wp2_with fail
      refine (all_st wr w.heap.size B c N cap2 ao2 os fs a b HR.out.1.cl HNN HR.out.1.md HR.out.1.r2).mono ?_
      rintro _ w4 ⟨rfl, k4, hk4⟩
      rw [hk4]
      clear hk4
      have HK4 : Hid (Kept (wr.drewN k4) w.heap.size B c N cap1 cap2 ao1 ao2 os fs a b) := (HR.out.1.k2.ext (below_draws wr k4)).kept HR.out.1.md
      go_wp2_with fail
      refine (drain_st (wr.drewN k4) w.heap.size B c N cap1 cap2 ao1 ao2 os fs a b HNN HK4).mono ?_
      rintro _ w5 ⟨rfl, hb5⟩
      have HB5 : Hid (Below w.heap.size w w5) := (HR.out.2.1.trans (below_draws wr k4)).trans hb5
      clear hb5
      go_wp2_with fail
      go_ret
      exact ⟨rfl, HB5.out⟩
end Go.Proofs.Qxb6603907a
