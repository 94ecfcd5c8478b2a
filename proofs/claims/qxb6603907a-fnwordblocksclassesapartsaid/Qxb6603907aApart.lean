import Derived.Test.Qxb6603907aApartMem
namespace Go.Proofs.Qxb6603907a
open Go.RowKit RowsKit Blocks

/-- what the first loop carries -/
structure A1 (w : World) (base B c1 c2 t n1 cp s1 so : Nat) (ao ao2 : Option Addr) (os : Nat → Int) (a2 b2 : D) : Prop where
  k : K2 w base B c2 t n1 t n1 cp ao ao2 os bf a2 b2
  md : Mod c2 t a2 b2 os bf
  cl : Cl w base B c1 0 (D0 s1) (D0 so)

theorem d0_off (x s so : Nat) : ¬ ((D0 s).bl x ∨ (D0 so).bl x) := by
  rintro (h | h)
  · exact d0_bl _ _ h
  · exact d0_bl _ _ h

theorem A1.step {w w' : World} {base B c1 c2 s1 so : Nat} {a2 b2 a' b' : D} (hc : Cl w base B c1 0 (D0 s1) (D0 so)) (hne : c2 ≠ c1) (hst : CStep base B c2 a2 b2 a' b' w w') : Cl w' base B c1 0 (D0 s1) (D0 so) :=
  Cl.beside hc hst hne (fun x hx => absurd hx (d0_off x _ _))

set_option maxRecDepth 100000 in
set_option maxHeartbeats 4000000 in
theorem apart_rest (w : World) (c1 c2 s1 s2 so n1 k1 n2 k2 : Nat) (a5 a6 : Option Addr) (os : Nat → Int) (hc1 : c1 ≤ 20) (hc2 : c2 ≤ 20) (hs1 : s1 ≤ 20) (hs2 : s2 ≤ 20) (hso : so ≤ 20) (hne : Hid (c1 ≠ c2)) (hcs1 : c1 ≤ s1) (hcs2 : c2 ≤ s2) (hn1 : n1 ≤ 4096) (hn2 : n2 ≤ 4096)
    (hp1 : Hid (n1 * 2 ^ c2 ≤ 1048576)) (hp2 : Hid (n2 * 2 ^ c1 ≤ 1048576)) (hst : Hid (IsSteps w a6 n2 k2))
    (hcl : Hid (Calls Try.prog 16 #[.slice a5 n1 k1] w fun e w' => ∃ ao, e = .returned (.slice ao n1 n1) ∧ Hid (Row.owned w' w.heap.size ⟨30, 1, ao, n1, n1, segs .u32 os 0 n1⟩) ∧ Below w.heap.size w w')) :
    Calls Try.prog 4 #[.int .u8 c1, .int .u8 c2, .int .u8 s1, .int .u8 s2, .int .u8 so, .slice a5 n1 k1, .slice a6 n2 k2] w fun e w' => e = .returned (.bool true) ∧ Below w.heap.size w w' := by
  have h1 : ¬ (4096 : Int) < (n1 : Int) := by omega
  have h2 : ¬ (4096 : Int) < (n2 : Int) := by omega
  have h3 : ¬ (20 : Int) < (c1 : Int) := by omega
  have h4 : ¬ (20 : Int) < (c2 : Int) := by omega
  have h5 : ¬ (20 : Int) < (s1 : Int) := by omega
  have h6 : ¬ (20 : Int) < (s2 : Int) := by omega
  have h7 : ¬ (20 : Int) < (so : Int) := by omega
  have h8 : ((c1 : Int) == (c2 : Int)) = false := by rw [beq_eq_false_iff_ne]; have := hne.out; omega
  have h9 : ¬ (s1 : Int) < (c1 : Int) := by omega
  have h10 : ¬ (s2 : Int) < (c2 : Int) := by omega
  have hk0 : (0 : Int) ≤ (c1 : Int) := by omega
  have hk1 : (c1 : Int) ≤ 64 := by omega
  have hk2 : (0 : Int) ≤ (c2 : Int) := by omega
  have hk3 : (c2 : Int) ≤ 64 := by omega
  obtain ⟨p1, hpe1⟩ : ∃ p, p = n1 * 2 ^ c2 := ⟨_, rfl⟩
  obtain ⟨p2, hpe2⟩ : ∃ p, p = n2 * 2 ^ c1 := ⟨_, rfl⟩
  have hpb1 : p1 ≤ 1048576 := by rw [hpe1]; exact hp1.out
  have hpb2 : p2 ≤ 1048576 := by rw [hpe2]; exact hp2.out
  have hm1 : ∀ x : Int, x = (n1 : Int) → wrap64 (x * 2 ^ c2) = (p1 : Int) := fun x hx => by rw [hx]; exact (mul_shl n1 c2 p1 hpe1 (by omega)).1
  have hm2 : ∀ x : Int, x = (n1 : Int) → IntKind.i64.wrap (x * 2 ^ c2) = (p1 : Int) := fun x hx => by rw [hx]; exact (mul_shl n1 c2 p1 hpe1 (by omega)).2
  have hm3 : ∀ x : Int, x = (n2 : Int) → wrap64 (x * 2 ^ c1) = (p2 : Int) := fun x hx => by rw [hx]; exact (mul_shl n2 c1 p2 hpe2 (by omega)).1
  have hm4 : ∀ x : Int, x = (n2 : Int) → IntKind.i64.wrap (x * 2 ^ c1) = (p2 : Int) := fun x hx => by rw [hx]; exact (mul_shl n2 c1 p2 hpe2 (by omega)).2
  have h11 : ¬ (1048576 : Int) < (p1 : Int) := by omega
  have h12 : ¬ (1048576 : Int) < (p2 : Int) := by omega
  have hmk2 := run_make0b (P := Try.prog) 29 31 (.int .u64 0) 8 Try.underlying29 Try.info31 rfl (by decide) n1 (by omega)
  clear hpe1 hpe2
  go_enter Try.func4, Try.ntmps4
  go_wp2_with fail
  refine (bytes4 _ _ _ _ _ _ _ _ _ _ _ _).mono ?_
  rintro _ w0 ⟨⟨bb, rfl⟩, hw0⟩
  rw [hw0]
  clear hw0
  cases bb
  · go_wp2_with fail
    go_ret
    exact ⟨rfl, Below.refl _ _⟩
  · go_wp2_with fail
    refine Calls.mono hcl.out ?_
    rintro _ w1 ⟨ao, rfl, HR1, hb1⟩
    have HB1 : Hid (Below w.heap.size w w1) := hb1
    clear hb1 hm1 hm2 hm3 hm4 h1 h2 h3 h4 h5 h6 h7 h8 h9 h10 h11 h12
    obtain ⟨pu, ar, fi, har0, hcl6⟩ := clone_any (hst.out.below HB1.out) hn2
    have har : Hid (∀ i, ar i ≤ 4294967295) := har0
    have Hcl6 : Hid (Calls Try.prog 6 #[.slice a6 n2 k2] w1 fun e w' => ∃ ao, e = .returned (.slice ao n2 n2) ∧ Hid (OpsIn w' ao n2 pu ar fi) ∧ Below w1.heap.size w1 w') := hcl6
    clear har0 hcl6
    go_wp2_with fail
    refine Calls.mono Hcl6.out ?_
    rintro _ w2 ⟨aop, rfl, HO2, hb2⟩
    have HB2 : Hid (Below w.heap.size w w2 ∧ Below w1.heap.size w1 w2) := ⟨HB1.out.trans (hb2.mono HB1.out.size), hb2⟩
    have HR2 : Hid (Row.owned w2 w.heap.size ⟨30, 1, ao, n1, n1, segs .u32 os 0 n1⟩) := own_keep HR1.out (fun x hx => HB2.out.2.block x (own_blk HR1.out hx).2.1)
    clear hb2 Hcl6
    go_wp2_with fail
    refine (new_st w2).mono ?_
    rintro _ w3 ⟨rfl, hz, hbx, hb3, hsz⟩
    obtain ⟨B, hB⟩ : ∃ B, B = w2.heap.size := ⟨_, rfl⟩
    rw [← hB] at hz hbx hb3 hsz
    have HZ : Hid (Zeroed w3 B ∧ Box w3 B ∧ Below B w2 w3 ∧ w.heap.size ≤ B) := ⟨hz, hbx, hb3, by rw [hB]; exact HB2.out.1.size⟩
    rw [← hB]
    have HO3 : Hid (OpsIn w3 aop n2 pu ar fi) := HO2.out.ext (by rw [← hB]; exact hb3)
    have HB3 : Hid (Below w.heap.size w w3) := HB2.out.1.trans (hb3.mono HZ.out.2.2.2)
    have HR3 : Hid (Row.owned w3 w.heap.size ⟨30, 1, ao, n1, n1, segs .u32 os 0 n1⟩) := own_keep HR2.out (fun x hx => hb3.block x (by rw [hB]; exact (own_blk HR2.out hx).2.1))
    clear hz hbx hb3 hsz hB HO2 HB1 HB2 HR1 HR2
    have z1 := zeroed_at HZ.out.1 hc1
    have HZ2 : Hid _ := zeroed_at HZ.out.1 hc2
    have z10 := z1.1
    have z13 := z1.2.2.2.1
    clear z1
    go_wp2_with fail
    refine (set_st w3 B c1 s1 so hc1 _ _ z10 z13 HZ.out.2.1.frozen).mono ?_
    rintro _ w4 ⟨rfl, hw4⟩
    have hfc := first_class (s1 := s1) (s2 := so) HZ.out.1 HZ.out.2.1 HZ.out.2.2.2 hcs1 hs1 hso
    rw [← hw4] at hfc
    have HC4 : Hid (Cl w4 w.heap.size B c1 0 (D0 s1) (D0 so)) := hfc.1
    have HB4 : Hid (Below w.heap.size w w4) := HB3.out.trans hfc.2.1
    have HO4 : Hid (OpsIn w4 aop n2 pu ar fi) := by
      show OpsIn _ _ _ _ _ _
      rw [hw4]
      exact HO3.out.setB HZ.out.2.1
    have HR4 : Hid (Row.owned w4 w.heap.size ⟨30, 1, ao, n1, n1, segs .u32 os 0 n1⟩) := by
      show Row.owned _ _ _
      rw [hw4]
      have hnb := own_box HR3.out HZ.out.2.1 (show (30 : TypeId) ≠ 51 by decide)
      exact own_set_other (own_set_other HR3.out hnb) hnb
    have hcc := hfc.2.2 c2 hc2 (fun e => hne.out e.symm)
    have HY : Hid (w4.cell? ⟨B, c2 * 6, none⟩ = some (.int .u8 0) ∧ w4.cell? ⟨B, c2 * 6 + 1, none⟩ = some (.slice none 0 0) ∧ w4.cell? ⟨B, c2 * 6 + 2, none⟩ = some (.int .i64 0) ∧ w4.cell? ⟨B, c2 * 6 + 3, none⟩ = some (.int .u8 0) ∧ w4.cell? ⟨B, c2 * 6 + 4, none⟩ = some (.slice none 0 0) ∧ w4.cell? ⟨B, c2 * 6 + 5, none⟩ = some (.int .i64 0)) :=
      ⟨(hcc _ (by omega) (by omega)).trans HZ2.out.1, (hcc _ (by omega) (by omega)).trans HZ2.out.2.1, (hcc _ (by omega) (by omega)).trans HZ2.out.2.2.1, (hcc _ (by omega) (by omega)).trans HZ2.out.2.2.2.1, (hcc _ (by omega) (by omega)).trans HZ2.out.2.2.2.2.1, (hcc _ (by omega) (by omega)).trans HZ2.out.2.2.2.2.2⟩
    have y0 := HY.out.1
    have y3 := HY.out.2.2.2.1
    clear hfc hw4 z10 z13 HO3 HB3 HR3 HZ HZ2 hcc
    go_wp2_with fail
    refine (set_st w4 B c2 s2 so hc2 _ _ y0 y3 HC4.out.box.frozen).mono ?_
    rintro _ w5 ⟨rfl, hw5⟩
    have hsc := second_class (t1 := s2) HC4.out hne.out HY.out.1 HY.out.2.1 HY.out.2.2.1 HY.out.2.2.2.1 HY.out.2.2.2.2.1 HY.out.2.2.2.2.2 hs2 hso hcs2
    rw [← hw5] at hsc
    have HC5 : Hid (Cl w5 w.heap.size B c1 0 (D0 s1) (D0 so) ∧ Cl w5 w.heap.size B c2 0 (D0 s2) (D0 so)) := ⟨hsc.1, hsc.2.1⟩
    have HB5 : Hid (Below w.heap.size w w5) := HB4.out.trans hsc.2.2
    have HO5 : Hid (OpsIn w5 aop n2 pu ar fi) := by
      show OpsIn _ _ _ _ _ _
      rw [hw5]
      exact HO4.out.setB HC4.out.box
    have HR5 : Hid (Row.owned w5 w.heap.size ⟨30, 1, ao, n1, n1, segs .u32 os 0 n1⟩) := by
      show Row.owned _ _ _
      rw [hw5]
      have hnb := own_box HR4.out HC4.out.box (show (30 : TypeId) ≠ 51 by decide)
      exact own_set_other (own_set_other HR4.out hnb) hnb
    clear hsc hw5 y0 y3 HY HC4 HB4 HO4 HR4
    have HK6 : Hid (A1 (w5.alloc (.cells (madeCells #[.int .u64 0] n1) 31)) w.heap.size B c1 c2 0 n1 n1 s1 so ao (some ⟨w5.heap.size, 0, none⟩) os (D0 s2) (D0 so) ∧ Below w.heap.size w (w5.alloc (.cells (madeCells #[.int .u64 0] n1) 31)) ∧ OpsIn (w5.alloc (.cells (madeCells #[.int .u64 0] n1) 31)) aop n2 pu ar fi) := by
      have hsz := HB5.out.size
      have bb : Below w5.heap.size w5 (w5.alloc (.cells (madeCells #[.int .u64 0] n1) 31)) := ⟨rfl, rfl, rfl, by simp, fun x hx => Below.heap_alloc _ _ x hx⟩
      have m2 : Row.owned (w5.alloc (.cells (madeCells #[.int .u64 0] n1) 31)) w.heap.size ⟨31, 1, some ⟨w5.heap.size, 0, none⟩, 0, n1, []⟩ := made_row hsz (by unfold maxLen; omega) 31 _
      refine ⟨⟨⟨HC5.out.2.keepGrown none (fun x hx _ => bb.block x hx) (fun e => by cases e) (fun x e => by cases e), World.ownsRow.alloc HR5.out _, m2, fun x _ => d0_off x _ _, fun x _ => d0_off x _ _⟩, fun i hi => absurd hi (Nat.not_lt_zero i), HC5.out.1.keepGrown none (fun x hx _ => bb.block x hx) (fun e => by cases e) (fun x e => by cases e)⟩, HB5.out.trans (bb.mono hsz), HO5.out.ext bb⟩
    go_wp2_with fail
    clear HC5 HB5 HO5 HR5 hmk2 hk0 hk1 hk2 hk3 hpb1 hpb2
    go_loopg [16, 17] n1 (fun gk v16 v17 wx => ∃ (t cp : Nat) (ao2 : Option Addr) (a2 b2 : D), v16 = .slice ao2 t cp ∧ v17 = .int .i64 t ∧ t ≤ n1 ∧ gk = n1 - t ∧ Hid (A1 wx w.heap.size B c1 c2 t n1 cp s1 so ao ao2 os a2 b2 ∧ Below w.heap.size w wx ∧ OpsIn wx aop n2 pu ar fi))
    case atStart => exact ⟨0, n1, _, _, _, rfl, rfl, Nat.zero_le _, rfl, HK6.out.1, HK6.out.2.1, HK6.out.2.2⟩
    case round =>
      obtain ⟨t, cp, ao2, a2, b2, rfl, rfl, htn, rfl, HR⟩ := hrel
      clear HK6
      by_cases ht : t < n1
      · have hti : (t : Int) < (n1 : Int) := by omega
        obtain ⟨g1, hg1, _⟩ := owned_addr HR.out.1.k.r1 (Nat.lt_of_le_of_lt (Nat.zero_le _) ht)
        have hg1' : ao = some ⟨g1, 0, none⟩ := hg1
        clear hg1
        subst hg1'
        have hc := own_at HR.out.1.k.r1 ht
        have Hn : Hid (t * 2 ^ c2 ≤ 1048576 ∧ (t + 1) * 2 ^ c2 ≤ 1048576) := by
          have q1 : (t + 1) * 2 ^ c2 ≤ n1 * 2 ^ c2 := Nat.mul_le_mul_right _ (by omega)
          have q2 : t * 2 ^ c2 ≤ (t + 1) * 2 ^ c2 := Nat.mul_le_mul_right _ (by omega)
          exact ⟨Nat.le_trans q2 (Nat.le_trans q1 hp1.out), Nat.le_trans q1 hp1.out⟩
        have hmeas : n1 - (t + 1) < n1 - t := by omega
        have hcv := k64_nat t (by omega)
        have hcv2 := u32_nat t (by omega)
        have hNN : ((t : Int) != (t : Int)) = false := by simp
        have hne' : Hid (c2 ≠ c1) := fun e => hne.out e.symm
        go_wp2_with fail
        refine (zzget wr _ _ _ _ (get_st wr w.heap.size B c2 t (os t) a2 b2 HR.out.1.k.cl Hn.out.1) (fun e w' hq => ⟨_, hq.1⟩)).mono ?_
        rintro _ w5 ⟨rfl, a5, b5, h5⟩
        have G5 : Hid (Cl w5 w.heap.size B c2 (t + 1) a5 b5 ∧ CStep w.heap.size B c2 a2 b2 a5 b5 wr w5 ∧ a5.s = a2.s ∧ b5.s = b2.s ∧ (∀ i, i < t * 2 ^ c2 → a5.f i = a2.f i) ∧ (∀ i, i < t → b5.f i = b2.f i) ∧ b5.f t = os t) := h5
        clear h5
        have HK5 : Hid (K2 w5 w.heap.size B c2 (t + 1) n1 t n1 cp (some ⟨g1, 0, none⟩) ao2 os bf a5 b5) := HR.out.1.k.step G5.out.2.1 G5.out.1
        have HC5 : Hid (Cl w5 w.heap.size B c1 0 (D0 s1) (D0 so)) := A1.step HR.out.1.cl hne'.out G5.out.2.1
        have HO5 : Hid (OpsIn w5 aop n2 pu ar fi) := HR.out.2.2.step HR.out.1.k.cl G5.out.2.1
        have HB5 : Hid (Below w.heap.size w w5) := HR.out.2.1.trans G5.out.2.1.below
        clear hc
        go_wp2_with fail
        refine (bf_st t (by omega) w5).mono ?_
        rintro _ w5' ⟨rfl, hw5'⟩
        rw [hw5']
        clear hw5'
        go_wp2_with fail
        refine (fill_st w5 w.heap.size B c2 (t + 1) t (bf t) a5 b5 G5.out.1 Hn.out.2 (Nat.lt_succ_self t)).mono ?_
        rintro _ w6 ⟨rfl, a6, h6⟩
        have G6 : Hid (Cl w6 w.heap.size B c2 (t + 1) a6 b5 ∧ CStep w.heap.size B c2 a5 b5 a6 b5 w5 w6 ∧ a6.s = a5.s ∧ BH a6 c2 t (bf t) ∧ FillE a5 a6 c2 t) := h6
        clear h6
        have HK6 : Hid (K2 w6 w.heap.size B c2 (t + 1) n1 t n1 cp (some ⟨g1, 0, none⟩) ao2 os bf a6 b5) := HK5.out.step G6.out.2.1 G6.out.1
        have HC6 : Hid (Cl w6 w.heap.size B c1 0 (D0 s1) (D0 so)) := A1.step HC5.out hne'.out G6.out.2.1
        have HO6 : Hid (OpsIn w6 aop n2 pu ar fi) := HO5.out.step G5.out.1 G6.out.2.1
        have HB6 : Hid (Below w.heap.size w w6) := HB5.out.trans G6.out.2.1.below
        have HM6 : Hid (Mod c2 (t + 1) a6 b5 os bf) := by
          have q1 := HR.out.1.md.get (os t) (bf t) G5.out.2.2.2.2.1 G5.out.2.2.2.2.2.1 G5.out.2.2.2.2.2.2 G6.out.2.2.2.1 G6.out.2.2.2.2
          rw [upd_id, upd_id] at q1
          exact q1
        have hN20 : t ≤ 1048576 := by omega
        have hs6 : w.heap.size ≤ w6.heap.size := HB6.out.size
        go_wp2_with fail
        refine (bf_st t (by omega) w6).mono ?_
        rintro _ w6' ⟨rfl, hw6'⟩
        rw [hw6']
        clear hw6'
        go_wp2_with (at_builtin; refine app64 w6 rfl (.tmp 126) (.tmp 129) rfl w.heap.size ao2 t cp bf (bf t) rfl HK6.out.r2 rfl hN20 hs6 ?_)
        intro ao2' cp' w7 hp7
        have HP7 : Hid (Pushed w6 w7 w.heap.size 31 .u64 ao2 ao2' t cp' bf (bf t)) := hp7
        clear hp7
        have HK7 : Hid (K2 w7 w.heap.size B c2 (t + 1) n1 (t + 1) n1 cp' (some ⟨g1, 0, none⟩) ao2' os bf a6 b5) := by
          have q1 := HK6.out.app2 HP7.out
          rw [upd_id] at q1
          exact q1
        have HC7 : Hid (Cl w7 w.heap.size B c1 0 (D0 s1) (D0 so)) := HC6.out.keepGrown (ao2.map (fun (z : Addr) => z.block)) (fun x hx hn => HP7.out.keep x hx hn) (own_box HK6.out.r2 HK6.out.cl.box (show (31 : TypeId) ≠ 51 by decide)) (fun x _ => d0_off x _ _)
        have HO7 : Hid (OpsIn w7 aop n2 pu ar fi) := HO6.out.push HP7.out HK6.out.r2 (by decide)
        have HB7 : Hid (Below w.heap.size w w7) := HB6.out.trans HP7.out.below
        go_wp2_with fail
        go_roundg (n1 - (t + 1))
        case measure => exact hmeas
        case rel => exact ⟨t + 1, cp', ao2', a6, b5, rfl, by go_num, ht, rfl, ⟨HK7.out, HM6.out, HC7.out⟩, HB7.out, HO7.out⟩
      · have hti : ¬ (t : Int) < (n1 : Int) := by omega
        have hte : t = n1 := by omega
        subst hte
        have HA : Hid (A2 wr w.heap.size B c1 c2 0 t cp ao ao2 os (D0 s1) (D0 so) a2 b2) := ⟨HR.out.1.cl, HR.out.1.k, fun x _ => d0_off x _ _, fun x _ => d0_off x _ _, fun x _ => d0_off x _ _⟩
        have HM : Hid (Mod c2 t a2 b2 os bf) := HR.out.1.md
        have HB : Hid (Below w.heap.size w wr ∧ OpsIn wr aop n2 pu ar fi) := HR.out.2
        clear HR
        have hz33 := run_zero33
        go_wp2_with fail
        go_loopg [19, 20] n2 (fun gk v19 v20 wx => ∃ (i N : Nat) (a1 b1 : D), v19 = .int .i64 N ∧ v20 = .int .i64 i ∧ i ≤ n2 ∧ N ≤ i ∧ gk = n2 - i ∧ Hid (A2 wx w.heap.size B c1 c2 N t cp ao ao2 os a1 b1 a2 b2 ∧ Below w.heap.size w wx ∧ OpsIn wx aop n2 pu ar fi))
        case atStart => exact ⟨0, 0, _, _, rfl, rfl, Nat.zero_le _, Nat.le_refl _, rfl, HA.out, HB.out.1, HB.out.2⟩
        case round =>
          obtain ⟨i, N, a1, b1, rfl, rfl, hin, hNi, rfl, HR⟩ := hrel
          clear HA HB
          by_cases hi : i < n2
          · have hii : (i : Int) < (n2 : Int) := by omega
            obtain ⟨g, cur, e1, e2, e3⟩ := HR.out.2.2 (Nat.lt_of_le_of_lt (Nat.zero_le _) hi)
            subst e1
            have q0 : wr.cell? ⟨g, i * 3, none⟩ = some (.bool (pu i)) := (e2.cell _).trans (e3 i hi).1
            have q1 : wr.cell? ⟨g, i * 3 + 1, none⟩ = some (.int .u32 (ar i)) := (e2.cell _).trans (e3 i hi).2.1
            have q2 : wr.cell? ⟨g, i * 3 + 2, none⟩ = some (.int .u64 (fi i)) := (e2.cell _).trans (e3 i hi).2.2
            have hgl : g ≠ wr.heap.size := Nat.ne_of_lt e2.lt
            clear e2 e3
            go_upto_region 31 with fail
            obtain ⟨H, hH⟩ : ∃ x, x = wr.heap.size := ⟨_, rfl⟩
            obtain ⟨w4, hw4⟩ : ∃ x, x = wr.alloc (.cells #[.bool (pu i), .int .u32 (ar i), .int .u64 (fi i)] 33) := ⟨_, rfl⟩
            rw [← hw4, ← hH]
            have hb4 : Below wr.heap.size wr w4 := by rw [hw4]; exact ⟨rfl, rfl, rfl, by simp, fun x hx => Below.heap_alloc _ _ x hx⟩
            have HH : Hid (H33 w4 H (opc (pu i) (ar i) (fi i))) := by
              show w4.heap[H]? = _
              rw [hw4, hH]; exact heap_alloc_new wr _
            have HK4 : Hid (A2 w4 w.heap.size B c1 c2 N t cp ao ao2 os a1 b1 a2 b2) := HR.out.1.ext hb4
            have HB4 : Hid (Below w.heap.size w w4) := HR.out.2.1.trans (hb4.mono HR.out.2.1.size)
            have HO4 : Hid (OpsIn w4 (some ⟨g, 0, none⟩) n2 pu ar fi) := HR.out.2.2.ext hb4
            clear hb4 hw4 hH q0 q1 q2 hgl HR
            have Hn : Hid (N * 2 ^ c1 ≤ 1048576 ∧ (N + 1) * 2 ^ c1 ≤ 1048576) := by
              have r1 : (N + 1) * 2 ^ c1 ≤ n2 * 2 ^ c1 := Nat.mul_le_mul_right _ (by omega)
              have r2 : N * 2 ^ c1 ≤ (N + 1) * 2 ^ c1 := Nat.mul_le_mul_right _ (by omega)
              exact ⟨Nat.le_trans r2 (Nat.le_trans r1 hp2.out), Nat.le_trans r1 hp2.out⟩
            have d0 : w4.cell? ⟨H, 0, none⟩ = some (.bool (pu i)) := HH.out.cell 0
            have d1 : w4.cell? ⟨H, 1, none⟩ = some (.int .u32 (ar i)) := HH.out.cell 1
            have hmeas : n2 - (i + 1) < n2 - i := by omega
            cases hpu : pu i
            · rw [hpu] at d0
              have hcv := k64_nat N (by omega)
              go_wp2_with fail
              refine (zzget w4 _ _ _ _ (get_st w4 w.heap.size B c1 N (ar i) a1 b1 HK4.out.cl Hn.out.1) (fun e w' hq => ⟨_, hq.1⟩)).mono ?_
              rintro _ w5 ⟨rfl, a5, b5, h5⟩
              have G5 : Hid (Cl w5 w.heap.size B c1 (N + 1) a5 b5 ∧ CStep w.heap.size B c1 a1 b1 a5 b5 w4 w5) := ⟨h5.1, h5.2.1⟩
              clear h5 d0 d1
              have HH5 : Hid (H33 w5 H (opc (pu i) (ar i) (fi i))) := HH.out.step HK4.out.cl G5.out.2
              have d2 : w5.cell? ⟨H, 2, none⟩ = some (.int .u64 (fi i)) := HH5.out.cell 2
              have HK5 : Hid (A2 w5 w.heap.size B c1 c2 (N + 1) t cp ao ao2 os a5 b5 a2 b2) := HK4.out.step G5.out.2 G5.out.1 hne.out
              have HO5 : Hid (OpsIn w5 (some ⟨g, 0, none⟩) n2 pu ar fi) := HO4.out.step HK4.out.cl G5.out.2
              have HB5 : Hid (Below w.heap.size w w5) := HB4.out.trans G5.out.2.below
              go_wp2_with fail
              refine (fill_st w5 w.heap.size B c1 (N + 1) N (fi i) a5 b5 G5.out.1 Hn.out.2 (Nat.lt_succ_self N)).mono ?_
              rintro _ w6 ⟨rfl, a6, h6⟩
              have HK6 : Hid (A2 w6 w.heap.size B c1 c2 (N + 1) t cp ao ao2 os a6 b5 a2 b2) := HK5.out.step h6.2.1 h6.1 hne.out
              have HO6 : Hid (OpsIn w6 (some ⟨g, 0, none⟩) n2 pu ar fi) := HO5.out.step G5.out.1 h6.2.1
              have HB6 : Hid (Below w.heap.size w w6) := HB5.out.trans h6.2.1.below
              clear h6 d2
              go_wp2_with fail
              go_roundg (n2 - (i + 1))
              case measure => exact hmeas
              case rel => exact ⟨i + 1, N + 1, a6, b5, by go_num, by go_num, hi, by omega, rfl, HK6.out, HB6.out, HO6.out⟩
            · rw [hpu] at d0
              have hcva := k64_nat (ar i) (Nat.le_trans (har.out i) (by decide))
              by_cases hge : N ≤ ar i
              · have hgei : (N : Int) ≤ (ar i : Int) := by omega
                go_wp2_with fail
                go_roundg (n2 - (i + 1))
                case measure => exact hmeas
                case rel => exact ⟨i + 1, N, a1, b1, rfl, by go_num, hi, by omega, rfl, HK4.out, HB4.out, HO4.out⟩
              · have hgei : (ar i : Int) < (N : Int) := by omega
                obtain ⟨l, hl⟩ : ∃ l, N = l + 1 := ⟨N - 1, by omega⟩
                have Hl : Hid (N = l + 1 ∧ ar i ≤ l ∧ l ≤ i + 1) := ⟨hl, by omega, by omega⟩
                have hp1' := (pred_int N l hl (by omega)).1
                have hp2' := (pred_int N l hl (by omega)).2
                have hput := zzput w4 _ _ _ _ (put_st w4 w.heap.size B c1 N l (ar i) a1 b1 HK4.out.cl Hn.out.1 hl Hl.out.2.1) (fun e w' hq => ⟨_, hq.1⟩)
                clear hl hge
                go_wp2_with fail
                refine hput.mono ?_
                rintro _ w5 ⟨rfl, a5, b5, h5⟩
                have HK5 : Hid (A2 w5 w.heap.size B c1 c2 l t cp ao ao2 os a5 b5 a2 b2) := HK4.out.step h5.2.1 h5.1 hne.out
                have HO5 : Hid (OpsIn w5 (some ⟨g, 0, none⟩) n2 pu ar fi) := HO4.out.step HK4.out.cl h5.2.1
                have HB5 : Hid (Below w.heap.size w w5) := HB4.out.trans h5.2.1.below
                clear h5 hput d0 d1
                go_wp2_with fail
                go_roundg (n2 - (i + 1))
                case measure => exact hmeas
                case rel => exact ⟨i + 1, l, a5, b5, rfl, by go_num, hi, Hl.out.2.2, rfl, HK5.out, HB5.out, HO5.out⟩
          · have hii : ¬ (i : Int) < (n2 : Int) := by omega
            go_wp2_with fail
            refine (all_st wr w.heap.size B c2 t cp ao2 os bf a2 b2 HR.out.1.k.cl hp1 HM HR.out.1.k.r2).mono ?_
            rintro _ w4 ⟨rfl, k4, hk4⟩
            rw [hk4]
            clear hk4
            have HK4 : Hid (Kept (wr.drewN k4) w.heap.size B c2 t t cp ao ao2 os bf a2 b2) := (HR.out.1.k.ext (below_draws wr k4)).kept HM.out
            go_wp2_with fail
            refine (drain_st (wr.drewN k4) w.heap.size B c2 t t cp ao ao2 os bf a2 b2 hp1 HK4).mono ?_
            rintro _ w5 ⟨rfl, hb5⟩
            have HB5 : Hid (Below w.heap.size w w5) := (HR.out.2.1.trans (below_draws wr k4)).trans hb5
            clear hb5
            go_wp2_with fail
            go_ret
            exact ⟨rfl, HB5.out⟩
end Go.Proofs.Qxb6603907a
