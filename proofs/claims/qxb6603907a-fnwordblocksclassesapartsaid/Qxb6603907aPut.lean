import Derived.Test.Qxb6603907aWords
import Derived.Test.Qxb6603907aCut
import Derived.Test.Qxb6603907aCut32
namespace Go.Proofs.Qxb6603907a
open Go.RowKit RowsKit Blocks

theorem pred_int (N l : Nat) (h : N = l + 1) (hN : N ≤ 1048576) : wrap64 ((N : Int) - 1) = (l : Int) ∧ IntKind.i64.wrap ((N : Int) - 1) = (l : Int) := by
  refine ⟨?_, ?_⟩
  · unfold wrap64; omega
  · rw [IntKind.wrap_i64]; omega

/-- whom 'put' names -/
def gone (b : D) (l b0 : Nat) : Int := if b0 = l then 0 else b.f l
def PutW (a a' : D) (c l b0 : Nat) : Prop := ∀ j, j < l * 2 ^ c → a'.f j = if b0 * 2 ^ c ≤ j ∧ j < b0 * 2 ^ c + 2 ^ c then a.f (l * 2 ^ c + (j - b0 * 2 ^ c)) else a.f j
def PutO (b b' : D) (l b0 : Nat) : Prop := ∀ j, j < l → b'.f j = if j = b0 then b.f l else b.f j

set_option maxRecDepth 100000 in
theorem put_st (w : World) (base B c N l b0 : Nat) (a b : D) (h : Hid (Cl w base B c N a b)) (hN : Hid (N * 2 ^ c ≤ 1048576)) (hl : Hid (N = l + 1)) (hb0 : Hid (b0 ≤ l)) :
    Calls Try.prog 20 #[.pointer (some ⟨B, 0, none⟩), .int .u8 c, .int .u32 b0] w fun e w' => e = .returned (.int .u32 (gone b l b0)) ∧ ∃ a' b', Cl w' base B c l a' b' ∧ CStep base B c a b a' b' w w' ∧ a'.s = a.s ∧ b'.s = b.s ∧ PutW a a' c l b0 ∧ PutO b b' l b0 := by
  have hbd := cl_bounds h.out hN.out
  have hc20 : c ≤ 20 := hbd.2.2.2.2.2
  have Hbd : Hid (N ≤ 1048576 ∧ 2 ^ c ∣ a.C ∧ 2 ^ c ∣ a.L) := ⟨hbd.1, hbd.2.1, hbd.2.2.1⟩
  clear hbd
  have hs0 : (0 : Int) ≤ (c : Int) := by omega
  have hs1 : (c : Int) ≤ 64 := by omega
  have hs2 : (c : Int) < 64 := by omega
  have hsub1 := (pred_int N l hl.out Hbd.out.1).1
  have hsub2 := (pred_int N l hl.out Hbd.out.1).2
  have hcv := k64_nat b0 (by have h1 := hb0.out; have h2 := hl.out; have h3 := Hbd.out.1; omega)
  have x2 : w.cell? ⟨B, c * 6 + 5, none⟩ = some (.int .i64 N) := by
    have h1 := h.out.O.h2
    rw [h.out.bL] at h1
    exact h1
  obtain ⟨q, g, r, hg, hqr, hr, hat⟩ := at32_st h.out.O l (by rw [h.out.bL, hl.out]; exact Nat.lt_succ_self l)
  have hc := ck_at h.out.O.ck hg hr
  rw [hqr] at hc
  clear hqr hr hg
  obtain ⟨n, hn⟩ : ∃ n, n = 2 ^ c := ⟨_, rfl⟩
  obtain ⟨i, hi⟩ : ∃ i, i = b0 * 2 ^ c := ⟨_, rfl⟩
  have Hn : Hid (n = 2 ^ c ∧ 0 < n) := ⟨hn, by rw [hn]; exact Nat.pow_pos (by decide)⟩
  have Hil : Hid (i + n ≤ a.L ∧ n ∣ i ∧ i ≤ 2097152) := by
    have h1 : (b0 + 1) * 2 ^ c ≤ N * 2 ^ c := Nat.mul_le_mul_right _ (by have := hb0.out; have := hl.out; omega)
    have h2 := hN.out
    rw [Nat.add_mul, Nat.one_mul] at h1
    refine ⟨by rw [h.out.aL, hi, hn]; exact h1, by rw [hi, hn]; exact Nat.dvd_mul_left _ _, ?_⟩
    rw [hi]; omega
  have Hi : Hid (i = b0 * 2 ^ c) := hi
  have hm1 := (mul_shl b0 c i hi Hil.out.2.2).1
  have hm2 := (mul_shl b0 c i hi Hil.out.2.2).2
  have hw1 := wrap_pow c n hn hc20
  have hw2 := wrapk_pow c n hn hc20
  clear hn hi
  go_enter Try.func20, Try.ntmps20
  go_upto_if 23 with fail
  go_cut [6, 23] (fun v6 _ wx => ∃ k, v6 = .int .u32 (gone b l b0) ∧ wx = w.drewN k)
  case first =>
    by_cases e : b0 = l
    · have t1 : ((b0 : Int) != (l : Int)) = false := by rw [e]; simp
      have HM : Hid (gone b l b0 = 0) := by show (if b0 = l then 0 else b.f l) = _; rw [if_pos e]
      go_wp2_with fail
      go_meet
      case rel => exact ⟨0, by rw [HM.out], rfl⟩
    · have t1 : ((b0 : Int) != (l : Int)) = true := by simp only [bne_iff_ne, ne_eq, Int.natCast_inj]; exact e
      have HM : Hid (gone b l b0 = b.f l) := by show (if b0 = l then 0 else b.f l) = _; rw [if_neg e]
      go_wp2_with fail
      refine hat.mono ?_
      rintro _ w3 ⟨rfl, k3, hk3⟩
      rw [hk3]
      clear hk3
      go_wp2_with fail
      go_meet
      case rel => exact ⟨k3, by rw [HM.out], rfl⟩
  case rest =>
    obtain ⟨k, rfl, hwx⟩ := hcut
    rw [hwx]
    clear hwx x2 hc hat
    have HC : Hid (Cl (w.drewN k) base B c N a b) := h.out.same rfl
    go_wp2_with fail
    refine (cut64_st _ base B (c * 6) n i a HC.out.W HC.out.box HC.out.hb Hn.out.2 (by rw [Hn.out.1]; exact Hbd.out.2.1) (by rw [Hn.out.1]; exact Hbd.out.2.2) Hil.out.2.1 Hil.out.1).mono ?_
    rintro _ w1 ⟨rfl, a1, h1⟩
    have G1 : Hid (Chd 31 29 .u64 w1 base B (c * 6) a1 ∧ Step base B (c * 6) a a1 (w.drewN k) w1 ∧ a1.s = a.s ∧ a1.L = a.L - n ∧ ∀ j, j < a.L - n → a1.f j = if i ≤ j ∧ j < i + n then a.f (a.L - n + (j - i)) else a.f j) := h1
    clear h1
    have GS := HC.out.stepW G1.out.2.1
    have GO : Hid (Chd 30 28 .u32 w1 base B (c * 6 + 3) b) := GS.1
    have GC : Hid (CStep base B c a b a1 b w w1) := (CStep.draws h.out.box k).trans GS.2
    clear GS
    go_wp2_with fail
    refine (cut32_st _ base B (c * 6 + 3) 1 b0 b GO.out G1.out.2.1.box h.out.hb (by decide) (Nat.one_dvd _) (Nat.one_dvd _) (Nat.one_dvd _) (by rw [h.out.bL, hl.out]; exact Nat.succ_le_succ hb0.out)).mono ?_
    rintro _ w2 ⟨rfl, b2, h2⟩
    have G2 : Hid (Chd 30 28 .u32 w2 base B (c * 6 + 3) b2 ∧ Step base B (c * 6 + 3) b b2 w1 w2 ∧ b2.s = b.s ∧ b2.L = b.L - 1 ∧ ∀ j, j < b.L - 1 → b2.f j = if b0 ≤ j ∧ j < b0 + 1 then b.f (b.L - 1 + (j - b0)) else b.f j) := h2
    clear h2
    go_wp2_with fail
    go_ret
    have hl1 : a.L - n = l * 2 ^ c := by rw [h.out.aL, Hn.out.1, hl.out, Nat.add_mul, Nat.one_mul, Nat.add_sub_cancel]
    have hl2 : b.L - 1 = l := by rw [h.out.bL, hl.out]; rfl
    have GW : Chd 31 29 .u64 w2 base B (c * 6) a1 := G1.out.1.beside G2.out.2.1 G1.out.2.1.box (by decide) (by decide) (by omega) (fun x hx hx' => G1.out.1.ck.apart GO.out.ck (by decide) (by decide) (by decide) (by decide) hx hx')
    have GS2 : CStep base B c a1 b a1 b2 w1 w2 := by
      refine ⟨G2.out.2.1.below, G2.out.2.1.box, fun o ho => G2.out.2.1.head o (by omega), fun x k1 k2 _ k4 => G2.out.2.1.rest x k1 k2 k4, ?_⟩
      intro x hx
      rcases hx with hx | hx
      · exact Or.inl (Or.inl hx)
      · rcases G2.out.2.1.new x hx with k1 | k1
        · exact Or.inl (Or.inr k1)
        · exact Or.inr k1
    refine ⟨rfl, a1, b2, ⟨G2.out.2.1.box, h.out.hb, GW, G2.out.1, by rw [G1.out.2.2.1]; exact h.out.hc, by rw [G1.out.2.2.2.1, hl1], by rw [G2.out.2.2.2.1, hl2]⟩, GC.out.trans GS2, G1.out.2.2.1, G2.out.2.2.1, ?_, ?_⟩
    · intro j hj
      have h5 := G1.out.2.2.2.2 j (by rw [hl1]; exact hj)
      rw [h5, hl1, Hi.out, Hn.out.1]
    · intro j hj
      have h5 := G2.out.2.2.2.2 j (by rw [hl2]; exact hj)
      rw [h5, hl2]
      by_cases e : j = b0
      · rw [if_pos (by omega), if_pos e, e, Nat.sub_self, Nat.add_zero]
      · rw [if_neg (by omega), if_neg e]
end Go.Proofs.Qxb6603907a
