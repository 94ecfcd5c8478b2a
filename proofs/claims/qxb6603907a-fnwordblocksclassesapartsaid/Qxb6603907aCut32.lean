import Derived.Test.Qxb6603907aCutAux
namespace Go.Proofs.Qxb6603907a
open Go.RowKit RowsKit Blocks

set_option maxRecDepth 100000 in
set_option maxHeartbeats 1000000 in
theorem cut32_st (w : World) (base B off n i : Nat) (d : D) (h : Hid (Chd 30 28 .u32 w base B off d)) (hB : Hid (Box w B)) (hbB : base ≤ B) (hn : 0 < n) (hdC : n ∣ d.C) (hdL : n ∣ d.L) (hdi : n ∣ i) (hi : i + n ≤ d.L) :
    Calls Try.prog 26 #[.pointer (some ⟨B, off, none⟩), .int .i64 i, .int .i64 n] w fun e w' => e = .returned (.tuple #[]) ∧ ∃ d', Chd 30 28 .u32 w' base B off d' ∧ Step base B off d d' w w' ∧ d'.s = d.s ∧ d'.L = d.L - n ∧ ∀ j, j < d.L - n → d'.f j = if i ≤ j ∧ j < i + n then d.f (d.L - n + (j - i)) else d.f j := by
  have hs := h.out.hs
  have hCpos := C_pos d
  have hCle := C_le hs
  have hG := h.out.hG
  have hLG := h.out.hL
  obtain ⟨lst, hlst⟩ : ∃ x, x = d.L - n := ⟨_, rfl⟩
  have hdl : n ∣ lst := by rw [hlst]; exact Nat.dvd_sub hdL (Nat.dvd_refl n)
  obtain ⟨bb, hbb⟩ : ∃ bb : Bool, bb = (decide (i ≠ lst) && decide (n < d.C)) := ⟨_, rfl⟩
  have c0 := h.out.h0
  have c1 := h.out.h1
  have c2 := h.out.h2
  have hs0 : (0 : Int) ≤ (d.s : Int) := by omega
  have hs1 : (d.s : Int) ≤ 64 := by omega
  have hwsub : IntKind.i64.wrap ((d.L : Int) - (n : Int)) = (d.L : Int) - (n : Int) := IntWalk.i64_in _ ⟨by omega, by omega⟩
  have hLn : (d.L : Int) - (n : Int) = (lst : Int) := by omega
  have hm0 : 0 < d.Gs.length := by
    rcases Nat.eq_zero_or_pos d.Gs.length with e | e
    · rw [e] at hLG; omega
    · exact e
  obtain ⟨R, hR⟩ := h.out.ck.addr hm0
  rw [hR] at c1
  have HR : Hid (d.ao = some ⟨R, 0, none⟩) := hR
  have Hlst : Hid (lst = d.L - n) := hlst
  have Hbb : Hid (bb = (decide (i ≠ lst) && decide (n < d.C))) := hbb
  have hlt : lst + n ≤ d.L := by omega
  have hmb : d.Gs.length * d.C ≤ 1073741824 := by omega
  have hq1 := quo_lt hn hi hLG
  have hq2 := quo_lt hn hlt hLG
  have hf1 := rem_fits hCpos hdC hdi
  have hf2 := rem_fits hCpos hdC hdl
  have hnC : n ≤ d.C := Nat.le_of_dvd hCpos hdC
  clear hlst hbb hR hdL
  have hsh1 := shr_div i d.s d.C rfl
  have hsh2 := shr_div lst d.s d.C rfl
  have hdm1 := div_mod' i d.C
  have hdm2 := div_mod' lst d.C
  generalize i / d.C = q1 at hq1 hsh1 hdm1
  generalize lst / d.C = q2 at hq2 hsh2 hdm2
  generalize i % d.C = r1 at hf1 hdm1
  generalize lst % d.C = r2 at hf2 hdm2
  obtain ⟨g1, hg1⟩ : ∃ g, d.Gs[q1]? = some g := ⟨_, List.getElem?_eq_getElem hq1⟩
  obtain ⟨g2, hg2⟩ : ∃ g, d.Gs[q2]? = some g := ⟨_, List.getElem?_eq_getElem hq2⟩
  have ch1 : w.cell? ⟨R, q1, none⟩ = some (.slice (some ⟨g1, 0, none⟩) d.C d.C) := h.out.ck.header HR.out hg1
  have ch2 : w.cell? ⟨R, q2, none⟩ = some (.slice (some ⟨g2, 0, none⟩) d.C d.C) := h.out.ck.header HR.out hg2
  have Hg : Hid (d.Gs[q1]? = some g1 ∧ d.Gs[q2]? = some g2) := ⟨hg1, hg2⟩
  have Hdm : Hid (q1 * d.C + r1 = i ∧ q2 * d.C + r2 = lst) := ⟨hdm1, hdm2⟩
  have hq1i : (q1 : Int) < (d.Gs.length : Int) := Int.ofNat_lt.2 hq1
  have hq2i : (q2 : Int) < (d.Gs.length : Int) := Int.ofNat_lt.2 hq2
  have hfr : ∀ q, w.frozen? ⟨R, q, none⟩ = false := h.out.ck.thaw HR.out
  clear hdm1 hdm2
  have hw1 := wrap_pow d.s d.C rfl hs
  have hw2 := wrapk_pow d.s d.C rfl hs
  clear hg1 hg2
  generalize hP : (2 : Int) ^ d.s = P at hw1 hw2 hsh1 hsh2
  go_enter Try.func26, Try.ntmps26
  go_upto_region 1 with fail
  go_cut [28] (fun v wx => v = .bool bb ∧ wx = w)
  case first =>
    by_cases e : i = lst
    · have t1 : ((i : Int) != (lst : Int)) = false := by rw [e]; simp
      have HF : Hid (bb = false) := by
        show _ = _
        rw [Hbb.out]; simp [e]
      go_wp2_with fail
      go_meet
      case rel => exact ⟨by rw [HF.out], rfl⟩
    · have t1 : ((i : Int) != (lst : Int)) = true := by simp only [bne_iff_ne, ne_eq, Int.natCast_inj]; exact e
      by_cases e2 : n < d.C
      · have t2 : (n : Int) < (d.C : Int) := Int.ofNat_lt.2 e2
        have HF : Hid (bb = true) := by
          show _ = _
          rw [Hbb.out]; simp [e, e2]
        go_wp2_with fail
        go_meet
        case rel => exact ⟨by rw [HF.out], rfl⟩
      · have t2 : ¬ (n : Int) < (d.C : Int) := fun x => e2 (Int.ofNat_lt.1 x)
        have HF : Hid (bb = false) := by
          show _ = _
          rw [Hbb.out]; simp [e2]
        go_wp2_with fail
        go_meet
        case rel => exact ⟨by rw [HF.out], rfl⟩
  case rest =>
    obtain ⟨rfl, hwx⟩ := hcut
    rw [hwx]
    clear hwx
    go_upto_if 28 with fail
    go_cut [7, 8, 28] (fun _ _ _ wx => ∃ d1, Hid (Chd 30 28 .u32 wx base B off d1 ∧ Step base B off d d1 w wx ∧ Moved d d1 i n))
    case first =>
      cases hbv : bb
      · by_cases e : i = lst
        · have t1 : ((i : Int) != (lst : Int)) = false := by rw [e]; simp
          have HM : Hid (Moved d d i n) := moved_none (e.trans Hlst.out)
          go_wp2_with fail
          go_meet
          case rel => exact ⟨d, h.out, Step.refl hB.out, HM.out⟩
        · have t1 : ((i : Int) != (lst : Int)) = true := by simp only [bne_iff_ne, ne_eq, Int.natCast_inj]; exact e
          have HM : Hid (Moved d (d.swap q1 q2 g1 g2) i n ∧ q1 ≠ q2) := by
            have hnn : n = d.C := by
              have h6 := Hbb.out
              rw [hbv] at h6
              have h7 : ¬ n < d.C := by simpa [e] using h6.symm
              exact Nat.le_antisymm hnC (Nat.le_of_not_lt h7)
            exact swap_facts hnn hn hf1 hf2 Hdm.out.1 Hdm.out.2 Hlst.out e
          have hqne : q1 ≠ q2 := HM.out.2
          go_wp2_with fail
          go_quiet (fail)
          go_wp2_with fail
          go_region
          all_goals
            go_wp2_with fail
            go_meet
            case rel => exact ⟨_, (h.out.same (w' := w.drewN _) rfl).swap (hB.out.kept rfl) (by decide) (by decide) (by decide) q1 q2 g1 g2 HR.out Hg.out.1 Hg.out.2 hqne |>.1, (Step.draws hB.out _).trans ((h.out.same (w' := w.drewN _) rfl).swap (hB.out.kept rfl) (by decide) (by decide) (by decide) q1 q2 g1 g2 HR.out Hg.out.1 Hg.out.2 hqne).2, HM.out.1⟩
      · obtain ⟨cur1, hc1, hc2, _⟩ := h.out.ck.cell q1 g1 Hg.out.1
        have Hc : Hid (w.heap[g1]? = some (.cells cur1 30 (0, 0)) ∧ cur1.size = d.C) := ⟨hc1, hc2⟩
        clear hc1 hc2
        have Hsrc : Hid (∀ j v, (segs .u32 d.f lst n)[j]? = some v → w.cell? ((⟨g2, r2, none⟩ : Addr).add j) = some v) := segs_src h.out.ck Hg.out.2 hf2 Hdm.out.2
        have Hi1 : Hid ((i : Int) = ((q1 * d.C + r1 : Nat) : Int)) := by
          show _ = _
          rw [Hdm.out.1]
        have Hi2 : Hid ((lst : Int) = ((q2 * d.C + r2 : Nat) : Int)) := by
          show _ = _
          rw [Hdm.out.2]
        have Hfit : Hid (r1 + (segs .u32 d.f lst n).length ≤ cur1.size) := by
          show _ ≤ _
          rw [segs_len, Hc.out.2]; exact hf1
        have Hlen : Hid ((segs .u32 d.f lst n).length = Nat.min n n) := by
          show _ = _
          rw [segs_len]; exact (Nat.min_self n).symm
        have HM : Hid (Moved d (d.moved (q1 * d.C + r1) n lst) i n) := by
          show Moved _ _ _ _
          rw [Hdm.out.1, Hlst.out]; exact moved_copy d i n
        have hcopy := fun kk => run_copy_row (P := Try.prog) (w.drewN kk) 28 28 3 30 g1 r1 n n ⟨g2, r2, none⟩ n n cur1 30 (segs .u32 d.f lst n) Try.underlying28 Try.one30 Hc.out.1 Hlen.out Hsrc.out Hfit.out (segs_one _ _ _ _)
        go_wp2_with fail
        refine (run32_any _ B off d.s R d.Gs.length d.cap g1 q1 r1 n d.C _ Hi1 rfl hs hf1 hn hq1 hmb (by exact c0) (by exact c1) (by exact ch1)).mono ?_
        rintro _ w1 ⟨rfl, k1, hk1⟩
        rw [hk1]
        clear hk1
        go_wp2_with fail
        refine (run32_any _ B off d.s R d.Gs.length d.cap g2 q2 r2 n d.C _ Hi2 rfl hs hf2 hn hq2 hmb (by exact c0) (by exact c1) (by exact ch2)).mono ?_
        rintro _ w2 ⟨rfl, k2, hk2⟩
        rw [hk2]
        clear hk2
        go_wp2_with fail
        rw [← List.append_assoc]
        go_meet
        case rel => exact ⟨_, ((h.out.same (w' := w.drewN (k1 + k2)) rfl).move (hB.out.kept rfl) (by decide) (by decide) (by decide) q1 r1 n lst g1 cur1 Hg.out.1 Hc.out.1 Hc.out.2 hf1).1, (Step.draws hB.out (k1 + k2)).trans ((h.out.same (w' := w.drewN (k1 + k2)) rfl).move (hB.out.kept rfl) (by decide) (by decide) (by decide) q1 r1 n lst g1 cur1 Hg.out.1 Hc.out.1 Hc.out.2 hf1).2, HM.out⟩
    case rest =>
      obtain ⟨d1, H1⟩ := hcut
      have hs' : d1.s = d.s := H1.out.2.2.1
      have hL' : d1.L = d.L := H1.out.2.2.2.1
      have hlL : lst ≤ d1.Gs.length * d1.C := by
        have h5 := H1.out.1.hL
        rw [hL'] at h5
        exact Nat.le_trans (Nat.le_trans (Nat.le_add_right lst n) hlt) h5
      have x0 := H1.out.1.h0
      have x1 := H1.out.1.h1
      have x2 := H1.out.1.h2
      have xf := H1.out.2.1.box.frozen
      rw [hs'] at x0
      rw [hL'] at x2
      have hset := H1.out.1.setLen H1.out.2.1.box hbB (by decide) (by decide) lst hlL
      have H2 : Hid (Chd 30 28 .u32 (wc.setCell ⟨B, off + 2, none⟩ (.int .i64 (lst : Int))) base B off { d1 with L := lst } ∧ Step base B off d { d1 with L := lst } w (wc.setCell ⟨B, off + 2, none⟩ (.int .i64 (lst : Int)))) := ⟨hset.1, H1.out.2.1.trans hset.2⟩
      have HM := H1.out.2.2
      have HF : Hid (d1.s = d.s ∧ ∀ j, j < lst → d1.f j = if i ≤ j ∧ j < i + n then d.f (lst + (j - i)) else d.f j) := ⟨hs', fun j hj => by have h5 := HM.2.2.2 j (by rw [← Hlst.out]; exact hj); rw [h5, ← Hlst.out]⟩
      have hwl : wrap64 (lst : Int) = (lst : Int) := w64_nat _ (by omega)
      clear hset HM c0 c1 c2 ch1 ch2 hfr hq1i hq2i hsh1 hsh2 hq1 hq2 hf1 hf2 hmb hG hLG
      go_upto_region 7 with fail
      obtain ⟨w2, hw2e⟩ : ∃ x, x = wc.setCell ⟨B, off + 2, none⟩ (.int .i64 (lst : Int)) := ⟨_, rfl⟩
      rw [← hw2e] at H2 ⊢
      clear hw2e H1 x0 x1 x2 xf hLn hwsub hwl
      obtain ⟨d2, hd2⟩ : ∃ x : D, x = { d1 with L := lst } := ⟨_, rfl⟩
      rw [← hd2] at H2
      have y0 := H2.out.1.h0
      have y1 := H2.out.1.h1
      have y2 := H2.out.1.h2
      have e2s : d2.s = d.s := by rw [hd2]; exact hs'
      have e2L : d2.L = lst := by rw [hd2]
      rw [e2s] at y0
      rw [e2L] at y2
      have hwm : wrap64 ((d2.Gs.length : Int) - 1) = (d2.Gs.length : Int) - 1 := by
        have h6 := len_le (C_pos d2) H2.out.1.hG
        exact wrap_pred _ h6
      have Hwm : Hid (wrap64 ((d2.Gs.length : Int) - 1) = (d2.Gs.length : Int) - 1) := hwm
      clear hwm
      have Hd2 : Hid (d2 = { d1 with L := lst }) := hd2
      clear hd2
      have Hquo : Hid (d.C / 2 ≤ 1048576) := Nat.le_trans (Nat.div_le_self _ _) hCle
      obtain ⟨hf, hfe⟩ : ∃ x : Nat, x = d.C / 2 := ⟨_, rfl⟩
      have hquo : Int.tdiv (d.C : Int) 2 = (hf : Int) := by rw [hfe]; rfl
      rw [← hfe] at Hquo
      have hwq : IntKind.i64.wrap (hf : Int) = (hf : Int) := IntWalk.i64_in _ ⟨Int.le_trans (by decide) (Int.natCast_nonneg hf), Int.le_trans (Int.ofNat_le.2 Hquo.out) (by decide)⟩
      clear hfe
      go_upto_region 8 with fail
      go_cut [93] (fun v wx => v = .bool (decide (n < d.C)) ∧ wx = w2)
      case first =>
        by_cases e2 : n < d.C
        · have t2 : (n : Int) < (d.C : Int) := Int.ofNat_lt.2 e2
          have HT : Hid (decide (n < d.C) = true) := decide_eq_true e2
          go_wp2_with fail
          go_meet
          case rel => exact ⟨by rw [HT.out], rfl⟩
        · have t2 : ¬ (n : Int) < (d.C : Int) := fun x => e2 (Int.ofNat_lt.1 x)
          have HT : Hid (decide (n < d.C) = false) := decide_eq_false e2
          go_wp2_with fail
          go_meet
          case rel => exact ⟨by rw [HT.out], rfl⟩
      case rest =>
        obtain ⟨rfl, hwx⟩ := hcut
        rw [hwx]
        clear hwx
        go_upto_if 93 with fail
        go_cut [9, 93] (fun v9 _ wx => ∃ hf : Nat, v9 = .int .i64 hf ∧ hf ≤ 1048576 ∧ wx = w2)
        case first =>
          cases hdn : decide (n < d.C)
          · go_wp2_with fail
            go_meet
            case rel => exact ⟨0, rfl, Nat.zero_le _, rfl⟩
          · go_wp2_with fail
            go_meet
            case rel => exact ⟨hf, rfl, Hquo.out, rfl⟩
        case rest =>
          obtain ⟨hv, rfl, hhv, hwx⟩ := hcut
          rw [hwx]
          clear hwx hquo hwq
          go_upto_block 0 with fail
          go_cut [10] (fun _ wx => ∃ d3 : D, Hid (Chd 30 28 .u32 wx base B off d3 ∧ Step base B off d d3 w wx ∧ d3.s = d.s ∧ d3.L = lst ∧ d3.f = d1.f))
          case first =>
            go_wp2_with fail
            go_loopg [10] d2.Gs.length (fun gk v10 wx => ∃ (m : Nat) (x : Int) (d3 : D), v10 = .int .i64 x ∧ x = (m : Int) - 1 ∧ gk = m ∧ Hid (Chd 30 28 .u32 wx base B off d3 ∧ Step base B off d d3 w wx ∧ d3.Gs.length = m ∧ d3.s = d.s ∧ d3.L = lst ∧ d3.f = d1.f))
            case atStart => exact ⟨d2.Gs.length, _, d2, rfl, Hwm.out, rfl, H2.out.1, H2.out.2, rfl, e2s, e2L, by rw [Hd2.out]⟩
            case round =>
              obtain ⟨m, x, d3, rfl, hx, hgk, H3⟩ := hrel
              have z0 := H3.out.1.h0
              have z1 := H3.out.1.h1
              have z2 := H3.out.1.h2
              rw [H3.out.2.2.2.1] at z0
              rw [H3.out.2.2.1] at z1
              rw [H3.out.2.2.2.2.1] at z2
              cases m with
              | zero =>
                have hx' : x = -1 := by rw [hx]; rfl
                rw [hx']
                clear hx hx'
                go_wp2_with fail
                go_quiet (fail)
                go_wp2_with fail
                go_meet
                case rel => exact ⟨d3, H3.out.1.same rfl, H3.out.2.1.trans (Step.draws H3.out.2.1.box _), H3.out.2.2.2.1, H3.out.2.2.2.2.1, H3.out.2.2.2.2.2⟩
              | succ m' =>
                have hx' : x = (m' : Int) := by rw [hx, Int.natCast_succ, Int.add_sub_cancel]
                rw [hx']
                clear hx hx'
                obtain ⟨R3, hR3⟩ := H3.out.1.ck.addr (by rw [H3.out.2.2.1]; exact Nat.succ_pos m')
                have HR3 : Hid (d3.ao = some ⟨R3, 0, none⟩) := hR3
                rw [hR3] at z1
                clear hR3
                have hCe : d3.C = d.C := by show 2 ^ d3.s = 2 ^ d.s; rw [H3.out.2.2.2.1]
                obtain ⟨z, hz⟩ : ∃ z, z = m' * d.C := ⟨_, rfl⟩
                have hzb : z ≤ 2097152 := by
                  have h6 := H3.out.1.hG
                  rw [H3.out.2.2.1, hCe, Nat.succ_mul] at h6
                  rw [hz]
                  exact Nat.le_trans (Nat.le_add_right _ _) h6
                have hsz : (m' : Int) * P = (z : Int) := by rw [← hP, hz]; exact shl_int m' d.s d.C rfl
                have hlb : lst ≤ 2097152 := by
                  have h6 := Nat.le_trans H3.out.1.hL H3.out.1.hG
                  rw [H3.out.2.2.2.2.1] at h6
                  exact h6
                have hwz := w64_nat z (Nat.le_trans hzb (by decide))
                have hwz' := k64_nat z (Nat.le_trans hzb (by decide))
                have hwa := w64_nat (lst + hv) (Nat.le_trans (Nat.add_le_add hlb hhv) (by decide))
                have hwa' := k64_nat (lst + hv) (Nat.le_trans (Nat.add_le_add hlb hhv) (by decide))
                rw [Int.natCast_add] at hwa hwa'
                have hfr3 : ∀ q, wr.frozen? ⟨R3, q, none⟩ = false := H3.out.1.ck.thaw HR3.out
                have hfrB : ∀ q, wr.frozen? ⟨B, q, none⟩ = false := H3.out.2.1.box.frozen
                have hBR : B ≠ R3 := fun e => H3.out.1.ck.off_box H3.out.2.1.box (by decide) (by decide) (Or.inl (by rw [HR3.out, e]; rfl))
                have hBR' : R3 ≠ B := fun e => hBR e.symm
                have hidx : (m' : Int) < ((m' + 1 : Nat) : Int) := Int.ofNat_lt.2 (Nat.lt_succ_self m')
                have hcap : m' ≤ d3.cap := by
                  have h6 := (cap_ge H3.out.1.ck.row).1
                  rw [H3.out.2.2.1] at h6
                  exact Nat.le_of_succ_le h6
                have hcapi : (m' : Int) ≤ (d3.cap : Int) := Int.ofNat_le.2 hcap
                by_cases t3 : (lst : Int) + (hv : Int) ≤ (z : Int)
                · have hlz : lst ≤ z := by
                    have h6 : (lst : Int) ≤ (z : Int) := Int.le_trans (Int.le_add_of_nonneg_right (Int.natCast_nonneg hv)) t3
                    exact Int.ofNat_le.1 h6
                  have HP : Hid (d3.Gs.length = m' + 1 ∧ d3.L ≤ m' * d3.C) := ⟨H3.out.2.2.1, by rw [H3.out.2.2.2.2.1, hCe, ← hz]; exact hlz⟩
                  have Hgm : Hid (m' < gk) := by show m' < gk; rw [hgk]; exact Nat.lt_succ_self m'
                  have Hwm' : Hid (wrap64 ((m' : Int) - 1) = (m' : Int) - 1) := by
                    show _ = _
                    have h6 : m' ≤ 2097152 := by
                      have h7 := len_le (C_pos d3) H3.out.1.hG
                      rw [H3.out.2.2.1] at h7
                      exact Nat.le_of_succ_le h7
                    exact wrap_pred m' h6
                  clear hz
                  obtain ⟨g3, hg3⟩ : ∃ g, d3.Gs[m']? = some g := ⟨_, List.getElem?_eq_getElem (by rw [H3.out.2.2.1]; exact Nat.lt_succ_self m')⟩
                  have Hc3 : Hid (wr.cell? ⟨R3, m', none⟩ = some (.slice (some ⟨g3, 0, none⟩) d3.C d3.C)) := H3.out.1.ck.header HR3.out hg3
                  clear hg3
                  have HX : Hid (((m' : Int) < ((m' + 1 : Nat) : Int) ∧ (m' : Int) ≤ (d3.cap : Int)) ∧ ((∀ q, wr.frozen? ⟨R3, q, none⟩ = false) ∧ (∀ q, wr.frozen? ⟨B, q, none⟩ = false)) ∧ B ≠ R3 ∧ base ≤ B) := ⟨⟨hidx, hcapi⟩, ⟨hfr3, hfrB⟩, hBR, hbB⟩
                  clear hw1 hw2 hcapi hidx hBR hBR' hfr3 hfrB hhv hlb hzb hcap hCpos hCle hdC hdi hn hi hlt hnC hm0 hs hlz
                  go_wp2_with fail
                  go_quiet (fail)
                  have hidx := HX.out.1.1
                  have hc3 := Hc3.out
                  have hcapi := HX.out.1.2
                  have hfr3 := HX.out.2.1.1
                  have hfrB := HX.out.2.1.2
                  have hBR : B ≠ R3 := HX.out.2.2.1
                  have hBR' : R3 ≠ B := fun e => hBR e.symm
                  clear hsz hwz hwz' hwa hwa' hP
                  go_wp2_with fail
                  go_roundg m'
                  case measure => exact Hgm.out
                  case rel =>
                    have h7 := (H3.out.1.same (w' := wr.drewN nq) rfl).pop (H3.out.2.1.box.kept rfl) HX.out.2.2.2 (by decide) (by decide) (by decide) m' HR3.out HP.out.1 HP.out.2
                    rw [HR3.out] at h7
                    exact ⟨m', _, d3.pop m', rfl, Hwm'.out, rfl, h7.1, (H3.out.2.1.trans (Step.draws H3.out.2.1.box nq)).trans h7.2, by show (d3.Gs.take m').length = m'; rw [List.length_take, HP.out.1]; exact Nat.min_eq_left (Nat.le_succ m'), H3.out.2.2.2.1, H3.out.2.2.2.2.1, H3.out.2.2.2.2.2⟩
                · have t3' : (z : Int) < (lst : Int) + (hv : Int) := Int.not_le.1 t3
                  clear hz hw1 hw2 hcapi hidx hBR hBR' hfr3 hfrB hhv hlb hzb hcap hCpos hCle hdC hdi hn hi hlt hnC hm0 hs
                  go_wp2_with fail
                  go_quiet (fail)
                  clear hsz hwz hwz' hwa hwa' hP
                  go_wp2_with fail
                  go_meet
                  case rel => exact ⟨d3, H3.out.1.same rfl, H3.out.2.1.trans (Step.draws H3.out.2.1.box _), H3.out.2.2.2.1, H3.out.2.2.2.2.1, H3.out.2.2.2.2.2⟩
          case rest =>
            obtain ⟨d3, H3⟩ := hcut
            have HFin : Hid (∀ (w' : World) (d' : D), Chd 30 28 .u32 w' base B off d' → Step base B off d d' w w' → d'.s = d.s → d'.L = lst → d'.f = d1.f → ∃ d', Chd 30 28 .u32 w' base B off d' ∧ Step base B off d d' w w' ∧ d'.s = d.s ∧ d'.L = d.L - n ∧ ∀ j, j < d.L - n → d'.f j = if i ≤ j ∧ j < i + n then d.f (d.L - n + (j - i)) else d.f j) := by
              intro w' d' k1 k2 k3 k4 k5
              refine ⟨d', k1, k2, k3, k4.trans Hlst.out, ?_⟩
              intro j hj
              rw [k5, HF.out.2 j (by rw [Hlst.out]; exact hj), Hlst.out]
            have z1 := H3.out.1.h1
            obtain ⟨m, hm⟩ : ∃ m, m = d3.Gs.length := ⟨_, rfl⟩
            rw [← hm] at z1
            have Hm : Hid (m = d3.Gs.length ∧ m ≤ 2097152) := ⟨hm, by rw [hm]; exact len_le (C_pos d3) H3.out.1.hG⟩
            obtain ⟨cp, hcp⟩ : ∃ c, c = d3.cap := ⟨_, rfl⟩
            rw [← hcp] at z1
            have Hcp : Hid (cp = d3.cap) := hcp
            obtain ⟨q4, hq4e⟩ : ∃ q, q = cp / 4 := ⟨_, rfl⟩
            have hq4 : Int.tdiv (cp : Int) 4 = (q4 : Int) := by rw [hq4e]; rfl
            have hwq4 := k64_nat q4 (by rw [hq4e, hcp]; exact Nat.le_trans (Nat.div_le_self _ _) (Nat.le_trans (cap_ge H3.out.1.ck.row).2 (by decide)))
            have Hq : Hid (q4 = cp / 4) := hq4e
            clear hm hcp hq4e hP hw1 hw2 hCpos hCle hdC hdi hn hi hlt hnC hm0 hs hdl hs0 hs1 hs' hL' hlL e2s e2L y0 y1 y2 hhv
            by_cases t4 : m < q4
            · have t4' : (m : Int) < (q4 : Int) := Int.ofNat_lt.2 t4
              have Ht4 : Hid (m < q4) := t4
              clear t4
              go_wp2_with fail
              go_quiet (fail)
              obtain ⟨W, hW⟩ : ∃ W, W = wc.drewN nq := ⟨_, rfl⟩
              rw [← hW]
              have H4 : Hid (Chd 30 28 .u32 W base B off d3 ∧ Step base B off d d3 w W) := by
                show _ ∧ _
                rw [hW]
                exact ⟨H3.out.1.same rfl, H3.out.2.1.trans (Step.draws H3.out.2.1.box _)⟩
              clear hW z1 hq4 hwq4
              have H5 := H3.out.2.2
              clear H3
              have H3 : Hid (d3.s = d.s ∧ d3.L = lst ∧ d3.f = d1.f) := H5
              clear H5
              obtain ⟨R3, hR3⟩ := row_some H4.out.1.ck.row (by rw [← Hcp.out]; exact quo4 _ _ _ Hq.out Ht4.out)
              have x1 := H4.out.1.h1
              have xr := H4.out.1.ck.row
              rw [hR3, ← Hm.out.1, ← Hcp.out] at x1 xr
              have Hxr : Hid (Row.owned W base ⟨28, 1, some ⟨R3, 0, none⟩, m, cp, d3.Gs.map (hdr d3.C)⟩) := xr
              clear xr hR3
              have xf := H4.out.2.box.frozen
              have hBs := H4.out.2.box.lt
              obtain ⟨c, hc⟩ : ∃ c, c = 2 * m := ⟨_, rfl⟩
              have hc1 := (mul2 m c hc Hm.out.2).1
              have hc2 := (mul2 m c hc Hm.out.2).2
              have Hc : Hid (c = 2 * m ∧ c ≤ 4194304) := ⟨hc, by have := Hm.out.2; omega⟩
              clear hc
              obtain ⟨i28, hi28, hz0, hz1, hz2⟩ := info_parts Try.info28
              have hmk := run_make0 (P := Try.prog) 44 28 i28 (.slice none 0 0) Try.underlying44 hi28 hz0 hz1 hz2 rfl c Hc.out.2
              have Hbase : Hid (base ≤ W.heap.size) := Nat.le_trans hbB (Nat.le_of_lt hBs)
              have Hown2 : Hid (Row.owned (W.alloc (.cells (madeCells #[.slice none 0 0] c) 28)) base ⟨28, 1, some ⟨W.heap.size, 0, none⟩, 0, c, []⟩) := made_row Hbase.out (Nat.le_trans Hc.out.2 (by decide)) 28 _
              have Hnews : Hid (∀ j u, (d3.Gs.map (hdr d3.C))[j]? = some u → (W.alloc (.cells (madeCells #[.slice none 0 0] c) 28)).cell? ((⟨R3, 0, none⟩ : Addr).add j) = some u) := row_src Hxr.out _
              have Hlen : Hid ((d3.Gs.map (hdr d3.C)).length = m * 1 ∧ 0 + m ≤ c) := ⟨by rw [List.length_map, Nat.mul_one]; exact Hm.out.1.symm, by have := Hc.out.1; omega⟩
              have ca1 : ∀ (k : Nat) (x : Obj), ((W.drewN k).alloc x).cell? ⟨B, off + 1, none⟩ = some (.slice (some ⟨R3, 0, none⟩) m cp) := fun k x => (World.cell?_alloc_lt _ _ _ hBs).trans x1
              have hBne : B ≠ W.heap.size := Nat.ne_of_lt hBs
              go_wp2_with fail
              go_region_law (refine step_append_fits rfl (.tmp 159) (.tmp 163) 44 rfl base 28 i28 1 Try.underlying44 hi28 hz1 W.heap.size 0 c [] (by simp [Act.eval]) (by exact Hown2.out) ⟨R3, 0, none⟩ m cp (d3.Gs.map (hdr d3.C)) (by simp [Act.eval]) Hlen.out.1 (by exact Hnews.out) (hdr_one _ _) Hlen.out.2 ?_; intro w4 hw4 hg4; have hg5 : (W.alloc (.cells (madeCells #[.slice none 0 0] c) 28)).grownBy w4 (some W.heap.size) := ⟨hg4.os, hg4.tape, hg4.output, hg4.size, hg4.block⟩; have hB4 : w4.heap[B]? = W.heap[B]? := (hg5.block B (by rw [World.size_alloc]; exact Nat.lt_succ_of_lt hBs) (fun e => by simp only [Option.some.injEq] at e; exact hBne e)).trans (Below.heap_alloc _ _ B hBs); have Hres : Hid (Row.owned w4 base ⟨28, 1, some ⟨W.heap.size, 0, none⟩, 0 + m, c, [] ++ d3.Gs.map (hdr d3.C)⟩ ∧ (W.alloc (.cells (madeCells #[.slice none 0 0] c) 28)).grownBy w4 (some W.heap.size)) := ⟨hw4, hg5⟩; clear hw4 hg4 hg5; have b1 : w4.cell? ⟨B, off + 1, none⟩ = some (.slice (some ⟨R3, 0, none⟩) m cp) := (cell_eq hB4 _).trans x1; have b3 : ∀ o, w4.frozen? ⟨B, o, none⟩ = false := fun o => (frozen_eq hB4 _).trans (xf o); clear hB4)
              all_goals
                go_wp2_with fail
                go_end0
                have h9 := Hres.out.1
                rw [Nat.zero_add, List.nil_append] at h9
                rw [Hm.out.1] at h9 ⊢
                have h8 := renewed H4.out.1 H4.out.2.box hbB (by decide) (by decide) c _ Hres.out.2 h9
                exact ⟨rfl, HFin.out _ _ h8.1 (H4.out.2.trans h8.2) H3.out.1 H3.out.2.1 H3.out.2.2⟩
            · have t4' : ¬ (m : Int) < (q4 : Int) := fun x => t4 (Int.ofNat_lt.1 x)
              have t4'' : (q4 : Int) ≤ (m : Int) := Int.not_lt.1 t4'
              clear t4
              go_wp2_with fail
              go_quiet (fail)
              clear hq4 hwq4
              go_wp2_with fail
              go_end0
              exact ⟨rfl, HFin.out _ d3 (H3.out.1.same rfl) (H3.out.2.1.trans (Step.draws H3.out.2.1.box _)) H3.out.2.2.1 H3.out.2.2.2.1 H3.out.2.2.2.2⟩
end Go.Proofs.Qxb6603907a
