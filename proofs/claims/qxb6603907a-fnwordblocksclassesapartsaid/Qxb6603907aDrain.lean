import Derived.Test.Qxb6603907aModel
namespace Go.Proofs.Qxb6603907a
open Go.RowKit RowsKit Blocks

set_option maxRecDepth 100000 in
theorem all_st (w : World) (base B c N cap : Nat) (ao : Option Addr) (os fs : Nat → Int) (a b : D) (h : Hid (Cl w base B c N a b)) (hN : Hid (N * 2 ^ c ≤ 1048576)) (hM : Hid (Mod c N a b os fs)) (hr : Hid (Row.owned w base ⟨31, 1, ao, N, cap, segs .u64 fs 0 N⟩)) :
    Calls Try.prog 13 #[.pointer (some ⟨B, 0, none⟩), .int .u8 c, .slice ao N cap] w fun e w' => e = .returned (.bool true) ∧ ∃ k, w' = w.drewN k := by
  have hN20 : N ≤ 1048576 := (cl_bounds h.out hN.out).1
  go_enter Try.func13, Try.ntmps13
  go_wp2_with fail
  go_loopg [7] N (fun gk v7 wx => ∃ (t k : Nat), v7 = .int .i64 t ∧ t ≤ N ∧ gk = N - t ∧ wx = w.drewN k)
  case atStart => exact ⟨0, 0, rfl, Nat.zero_le _, rfl, rfl⟩
  case round =>
    obtain ⟨t, k, rfl, htn, rfl, hwr⟩ := hrel
    rw [hwr]
    clear hwr
    by_cases ht : t < N
    · have hti : (t : Int) < (N : Int) := by omega
      obtain ⟨g, hg, _⟩ := owned_addr hr.out (Nat.lt_of_le_of_lt (Nat.zero_le _) ht)
      have hg' : ao = some ⟨g, 0, none⟩ := hg
      clear hg
      subst hg'
      have hc := own_at hr.out ht
      have hcv := u32_nat t (by omega)
      have hm : N - (t + 1) < N - t := by omega
      go_wp2_with fail
      refine (holds_st (w.drewN k) base B c N t (fs t) a b (h.out.same rfl) hN ht (hM.out t ht).2).mono ?_
      rintro _ w3 ⟨rfl, k3, hk3⟩
      rw [hk3]
      clear hk3
      go_wp2_with fail
      go_roundg (N - (t + 1))
      case measure => exact hm
      case rel => exact ⟨t + 1, _, by go_num, ht, rfl, rfl⟩
    · have hti : ¬ (t : Int) < (N : Int) := by omega
      go_wp2_with fail
      go_ret
      exact ⟨rfl, k, rfl⟩

/-- what 'drainMatches' and the law carry -/
structure Kept (w : World) (base B c m cap1 cap2 : Nat) (ao1 ao2 : Option Addr) (os fs : Nat → Int) (a b : D) : Prop where
  cl : Cl w base B c m a b
  md : Mod c m a b os fs
  r1 : Row.owned w base ⟨30, 1, ao1, m, cap1, segs .u32 os 0 m⟩
  r2 : Row.owned w base ⟨31, 1, ao2, m, cap2, segs .u64 fs 0 m⟩
  o1 : Off ao1 a b
  o2 : Off ao2 a b

/-- 'put' of block b0, and the model's own step behind it -/
theorem Kept.put {w w' : World} {base B c l cap1 cap2 g1 g2 b0 : Nat} {os fs : Nat → Int} {a b a' b' : D} (h : Kept w base B c (l + 1) cap1 cap2 (some ⟨g1, 0, none⟩) (some ⟨g2, 0, none⟩) os fs a b)
    (hst : CStep base B c a b a' b' w w') (hcl : Cl w' base B c l a' b') (hw : PutW a a' c l b0) (ho : PutO b b' l b0) :
    (∀ j, j < l + 1 → w'.cell? ⟨g1, j, none⟩ = some (.int .u32 (os j))) ∧ (∀ j, j < l + 1 → w'.cell? ⟨g2, j, none⟩ = some (.int .u64 (fs j))) ∧ (∀ j, w'.frozen? ⟨g1, j, none⟩ = false) ∧ (∀ j, w'.frozen? ⟨g2, j, none⟩ = false) ∧ g1 ≠ g2 ∧
    Below base w' ((w'.setCell ⟨g1, b0, none⟩ (.int .u32 (os l))).setCell ⟨g2, b0, none⟩ (.int .u64 (fs l))) ∧
    Kept ((w'.setCell ⟨g1, b0, none⟩ (.int .u32 (os l))).setCell ⟨g2, b0, none⟩ (.int .u64 (fs l))) base B c l cap1 cap2 (some ⟨g1, 0, none⟩) (some ⟨g2, 0, none⟩) (upd os b0 (os l)) (upd fs b0 (fs l)) a' b' := by
  have hbx := h.cl.box
  have k1 : Row.owned w' base ⟨30, 1, some ⟨g1, 0, none⟩, l + 1, cap1, segs .u32 os 0 (l + 1)⟩ := own_step h.r1 hbx (show (30 : TypeId) ≠ 51 by decide) h.o1 hst
  have k2 : Row.owned w' base ⟨31, 1, some ⟨g2, 0, none⟩, l + 1, cap2, segs .u64 fs 0 (l + 1)⟩ := own_step h.r2 hbx (show (31 : TypeId) ≠ 51 by decide) h.o2 hst
  have p1 : Off (some ⟨g1, 0, none⟩) a' b' := Off.step h.o1 h.r1 hst
  have p2 : Off (some ⟨g2, 0, none⟩) a' b' := Off.step h.o2 h.r2 hst
  have hne : g1 ≠ g2 := by
    intro e
    subst e
    exact own_ne k1 k2 (show (30 : TypeId) ≠ 31 by decide) (x := g1) rfl rfl
  have hB1 : g1 ≠ B := by
    rintro rfl
    exact own_box k1 hcl.box (show (30 : TypeId) ≠ 51 by decide) rfl
  have hB2 : g2 ≠ B := by
    rintro rfl
    exact own_box k2 hcl.box (show (31 : TypeId) ≠ 51 by decide) rfl
  have b1 := (own_blk k1 (x := g1) rfl).1
  have b2 := (own_blk k2 (x := g2) rfl).1
  have s1 := own_set k1 b0 (os l)
  have s2 : Row.owned (w'.setCell ⟨g1, b0, none⟩ (.int .u32 (os l))) base ⟨31, 1, some ⟨g2, 0, none⟩, l + 1, cap2, segs .u64 fs 0 (l + 1)⟩ := own_set_other k2 (fun e => hne (by simpa using e.symm))
  have s3 := own_set s2 b0 (fs l)
  have s4 : Row.owned ((w'.setCell ⟨g1, b0, none⟩ (.int .u32 (os l))).setCell ⟨g2, b0, none⟩ (.int .u64 (fs l))) base ⟨30, 1, some ⟨g1, 0, none⟩, l + 1, cap1, segs .u32 (upd os b0 (os l)) 0 (l + 1)⟩ := own_set_other s1 (fun e => hne (by simpa using e))
  refine ⟨fun j hj => own_at k1 hj, fun j hj => own_at k2 hj, fun j => owned_frozen k1 j, fun j => owned_frozen k2 j, hne, (below_set _ _ _ b1).trans (below_set _ _ _ b2), ⟨?_, h.md.put hw ho, own_take s4 (Nat.le_succ l), own_take s3 (Nat.le_succ l), p1, p2⟩⟩
  exact Cl.poked (Cl.poked hcl g1 _ _ hB1 (p1 g1 rfl)) g2 _ _ hB2 (p2 g2 rfl)

theorem Kept.addrs {w : World} {base B c l cap1 cap2 : Nat} {ao1 ao2 : Option Addr} {os fs : Nat → Int} {a b : D} (h : Kept w base B c (l + 1) cap1 cap2 ao1 ao2 os fs a b) : ∃ g1 g2, ao1 = some ⟨g1, 0, none⟩ ∧ ao2 = some ⟨g2, 0, none⟩ := by
  obtain ⟨g1, h1, _⟩ := owned_addr h.r1 (Nat.succ_pos l)
  obtain ⟨g2, h2, _⟩ := owned_addr h.r2 (Nat.succ_pos l)
  exact ⟨g1, g2, h1, h2⟩

set_option maxRecDepth 100000 in
theorem drain_st (w : World) (base B c N cap1 cap2 : Nat) (ao1 ao2 : Option Addr) (os fs : Nat → Int) (a b : D) (hN : Hid (N * 2 ^ c ≤ 1048576)) (h : Hid (Kept w base B c N cap1 cap2 ao1 ao2 os fs a b)) :
    Calls Try.prog 14 #[.pointer (some ⟨B, 0, none⟩), .int .u8 c, .slice ao1 N cap1, .slice ao2 N cap2] w fun e w' => e = .returned (.bool true) ∧ Below base w w' := by
  have hN20 : N ≤ 1048576 := (cl_bounds h.out.cl hN.out).1
  go_enter Try.func14, Try.ntmps14
  go_wp2_with fail
  go_loopg [2, 3, 9] N (fun gk v2 v3 v9 wx => ∃ (m : Nat) (os fs : Nat → Int) (a b : D), v2 = .slice ao1 m cap1 ∧ v3 = .slice ao2 m cap2 ∧ v9 = .int .i64 m ∧ m ≤ N ∧ gk = m ∧ Hid (Kept wx base B c m cap1 cap2 ao1 ao2 os fs a b ∧ Below base w wx))
  case atStart => exact ⟨N, os, fs, a, b, rfl, rfl, rfl, Nat.le_refl _, rfl, h.out, Below.refl _ _⟩
  case round =>
    obtain ⟨m, os, fs, a, b, rfl, rfl, rfl, hmN, hgk, HR⟩ := hrel
    have HmN : Hid (m * 2 ^ c ≤ 1048576) := Nat.le_trans (Nat.mul_le_mul_right _ hmN) hN.out
    rcases Nat.eq_zero_or_pos m with hm0 | hmp
    · subst hm0
      go_wp2_with fail
      refine (zzget wr _ _ _ _ (get_st wr base B c 0 1 a b HR.out.1.cl HmN) (fun e w' hq => ⟨_, hq.1⟩)).mono ?_
      rintro _ w3 ⟨rfl, a3, b3, h3⟩
      have HB : Hid (Below base w w3) := HR.out.2.trans h3.2.1.below
      clear h3
      go_wp2_with fail
      go_ret
      exact ⟨rfl, HB.out⟩
    · obtain ⟨l, hl⟩ : ∃ l, m = l + 1 := ⟨m - 1, by omega⟩
      have Hl : Hid (m = l + 1) := hl
      have hK := HR.out.1
      rw [hl] at hK
      obtain ⟨g1, g2, e1, e2⟩ := hK.addrs
      have Hgk : Hid (l < gk ∧ l ≤ N) := by
        show l < gk ∧ l ≤ N
        omega
      have hp1 := (pred_int m l hl (Nat.le_trans hmN hN20)).1
      have hp2 := (pred_int m l hl (Nat.le_trans hmN hN20)).2
      have hmi : (0 : Int) < (m : Int) := by omega
      have hli : (l : Int) < (m : Int) := by omega
      have hcap1 : (l : Int) ≤ (cap1 : Int) := by have := (cap_ge hK.r1).1; omega
      have hcap2 : (l : Int) ≤ (cap2 : Int) := by have := (cap_ge hK.r2).1; omega
      have hc1 : wr.cell? ⟨g1, l, none⟩ = some (.int .u32 (os l)) := by
        have h1 := hK.r1
        rw [e1] at h1
        exact own_at h1 (Nat.lt_succ_self l)
      have hgone := hK.md.gone (b0 := 0)
      have hput := zzput wr _ _ _ _ (put_st wr base B c m l 0 a b HR.out.1.cl HmN hl (Nat.zero_le l)) (fun e w' hq => ⟨_, hq.1⟩)
      have HK : Hid (Kept wr base B c (l + 1) cap1 cap2 ao1 ao2 os fs a b) := hK
      clear hK hmp hgk hl
      subst e1
      subst e2
      by_cases hl0 : l = 0
      · subst hl0
        rw [if_pos rfl] at hgone
        rw [hgone] at hput
        have h1 : ¬ (1 : Int) < (m : Int) := by have := Hl.out; omega
        clear hgone
        go_wp2_with fail
        refine hput.mono ?_
        rintro _ w2 ⟨rfl, a2, b2, h2⟩
        have HP := HK.out.put h2.2.1 h2.1 h2.2.2.2.2.1 h2.2.2.2.2.2
        have HB : Hid (Below base w w2) := HR.out.2.trans h2.2.1.below
        have d1 := HP.1 0 (by decide)
        have d2 := HP.2.1 0 (by decide)
        have f1 := HP.2.2.1
        have f2 := HP.2.2.2.1
        have hne : g1 ≠ g2 := HP.2.2.2.2.1
        have hne' : g2 ≠ g1 := fun e => hne e.symm
        have HQ : Hid (Below base w2 ((w2.setCell ⟨g1, 0, none⟩ (.int .u32 (os 0))).setCell ⟨g2, 0, none⟩ (.int .u64 (fs 0))) ∧ Kept ((w2.setCell ⟨g1, 0, none⟩ (.int .u32 (os 0))).setCell ⟨g2, 0, none⟩ (.int .u64 (fs 0))) base B c 0 cap1 cap2 (some ⟨g1, 0, none⟩) (some ⟨g2, 0, none⟩) (upd os 0 (os 0)) (upd fs 0 (fs 0)) a2 b2) := HP.2.2.2.2.2
        clear HP h2 hput
        go_wp2_with fail
        go_roundg 0
        case measure => exact Hgk.out.1
        case rel => exact ⟨0, _, _, a2, b2, rfl, rfl, rfl, Nat.zero_le _, rfl, HQ.out.2, HB.out.trans HQ.out.1⟩
      · rw [if_neg (fun e => hl0 e.symm)] at hgone
        rw [hgone] at hput
        have h1 : (1 : Int) < (m : Int) := by have := Hl.out; omega
        have h0l : (0 : Int) < (l : Int) := by omega
        have hss : (os l != os l) = false := by simp
        have Hl0 : Hid (0 < l) := Nat.pos_of_ne_zero hl0
        clear hgone hl0
        go_wp2_with fail
        refine hput.mono ?_
        rintro _ w2 ⟨rfl, a2, b2, h2⟩
        have HP := HK.out.put h2.2.1 h2.1 h2.2.2.2.2.1 h2.2.2.2.2.2
        have HB : Hid (Below base w w2) := HR.out.2.trans h2.2.1.below
        have d1 := HP.1 l (Nat.lt_succ_self l)
        have d2 := HP.2.1 l (Nat.lt_succ_self l)
        have d10 := HP.1 0 (Nat.succ_pos l)
        have d20 := HP.2.1 0 (Nat.succ_pos l)
        have f1 := HP.2.2.1
        have f2 := HP.2.2.2.1
        have hne : g1 ≠ g2 := HP.2.2.2.2.1
        have hne' : g2 ≠ g1 := fun e => hne e.symm
        have HQ : Hid (Below base w2 ((w2.setCell ⟨g1, 0, none⟩ (.int .u32 (os l))).setCell ⟨g2, 0, none⟩ (.int .u64 (fs l))) ∧ Kept ((w2.setCell ⟨g1, 0, none⟩ (.int .u32 (os l))).setCell ⟨g2, 0, none⟩ (.int .u64 (fs l))) base B c l cap1 cap2 (some ⟨g1, 0, none⟩) (some ⟨g2, 0, none⟩) (upd os 0 (os l)) (upd fs 0 (fs l)) a2 b2) := HP.2.2.2.2.2
        have HlN : Hid (l * 2 ^ c ≤ 1048576) := Nat.le_trans (Nat.mul_le_mul_right _ Hgk.out.2) hN.out
        have hho := holds_st ((w2.setCell ⟨g1, 0, none⟩ (.int .u32 (os l))).setCell ⟨g2, 0, none⟩ (.int .u64 (fs l))) base B c l 0 (fs l) a2 b2 HQ.out.2.cl HlN Hl0 (by have h5 := (HQ.out.2.md 0 Hl0.out).2; rw [upd_same] at h5; exact h5)
        clear HP h2 hput
        go_wp2_with fail
        refine hho.mono ?_
        rintro _ w3 ⟨rfl, k3, hk3⟩
        rw [hk3]
        clear hk3 hho
        go_wp2_with fail
        go_roundg l
        case measure => exact Hgk.out.1
        case rel =>
          have hk := HQ.out.2
          exact ⟨l, _, _, a2, b2, rfl, rfl, rfl, Hgk.out.2, rfl, ⟨hk.cl.same rfl, hk.md, own_keep hk.r1 (fun _ _ => rfl), own_keep hk.r2 (fun _ _ => rfl), hk.o1, hk.o2⟩, (HB.out.trans HQ.out.1).trans (below_draws _ _)⟩
end Go.Proofs.Qxb6603907a
