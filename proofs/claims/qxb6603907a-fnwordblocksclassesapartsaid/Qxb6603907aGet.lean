import Derived.Test.Qxb6603907aMemClass
import Derived.Test.Qxb6603907aCutAux
namespace Go.Proofs.Qxb6603907a
open Go.RowKit RowsKit Blocks

/-- where an index lies -/
theorem place {E SE : TypeId} {k : IntKind} {w : World} {base B off : Nat} {d : D} (h : Chd E SE k w base B off d) (i n : Nat) (hn : 0 < n) (hdC : n ∣ d.C) (hdi : n ∣ i) (hi : i + n ≤ d.L) :
    ∃ q g r R, q < d.Gs.length ∧ d.Gs[q]? = some g ∧ q * d.C + r = i ∧ r + n ≤ d.C ∧ d.ao = some ⟨R, 0, none⟩ ∧ d.Gs.length * d.C ≤ 1073741824 ∧ w.cell? ⟨R, q, none⟩ = some (.slice (some ⟨g, 0, none⟩) d.C d.C) := by
  have hC := C_pos d
  have hq := quo_lt hn hi h.hL
  have hg : d.Gs[i / d.C]? = some (d.Gs[i / d.C]'hq) := List.getElem?_eq_getElem hq
  obtain ⟨R, hR⟩ := h.ck.addr (Nat.lt_of_le_of_lt (Nat.zero_le _) hq)
  exact ⟨i / d.C, _, i % d.C, R, hq, hg, div_mod' i d.C, rem_fits hC hdC hdi, hR, Nat.le_trans h.hG (by decide), h.ck.header hR hg⟩

theorem run64_st {w : World} {base B off : Nat} {d : D} (h : Chd 31 29 .u64 w base B off d) (i n : Nat) (hn : 0 < n) (hdC : n ∣ d.C) (hdi : n ∣ i) (hi : i + n ≤ d.L) :
    ∃ q g r, d.Gs[q]? = some g ∧ q * d.C + r = i ∧ r + n ≤ d.C ∧ Calls Try.prog 27 #[.pointer (some ⟨B, off, none⟩), .int .i64 i, .int .i64 n] w fun e w' => e = .returned (.slice (some ⟨g, r, none⟩) n n) ∧ ∃ k, w' = w.drewN k := by
  obtain ⟨q, g, r, R, h1, h2, h3, h4, h5, h6, h7⟩ := place h i n hn hdC hdi hi
  have c1 := h.h1
  rw [h5] at c1
  exact ⟨q, g, r, h2, h3, h4, run64_any w B off d.s R d.Gs.length d.cap g q r n d.C _ (by show _ = _; rw [h3]) rfl h.hs h4 hn h1 h6 h.h0 c1 h7⟩

theorem at32_st {w : World} {base B off : Nat} {d : D} (h : Chd 30 28 .u32 w base B off d) (i : Nat) (hi : i < d.L) :
    ∃ q g r, d.Gs[q]? = some g ∧ q * d.C + r = i ∧ r < d.C ∧ Calls Try.prog 23 #[.pointer (some ⟨B, off, none⟩), .int .i64 i] w fun e w' => e = .returned (.pointer (some ⟨g, r, none⟩)) ∧ ∃ k, w' = w.drewN k := by
  obtain ⟨q, g, r, R, h1, h2, h3, h4, h5, h6, h7⟩ := place h i 1 (by decide) (Nat.one_dvd _) (Nat.one_dvd _) hi
  have c1 := h.h1
  rw [h5] at c1
  exact ⟨q, g, r, h2, h3, h4, at32_any w B off d.s R d.Gs.length d.cap g q r d.C _ (by show _ = _; rw [h3]) rfl h.hs h4 h1 h6 h.h0 c1 h7⟩

theorem ck_thaw {E SE : TypeId} {k : IntKind} {w : World} {base : Nat} {d : D} (h : Ck E SE k w base d) {q g : Nat} (hq : d.Gs[q]? = some g) (r : Nat) : w.frozen? ⟨g, r, none⟩ = false := by
  obtain ⟨cur, c1, _⟩ := h.cell q g hq
  simp [World.frozen?, c1]

theorem u32_nat (n : Nat) (h : n ≤ 4294967295) : IntKind.u32.wrap (n : Int) = (n : Int) := by
  rw [IntKind.wrap_u32]; omega

theorem cl_bounds {w : World} {base B c N : Nat} {a b : D} (h : Cl w base B c N a b) (hN : N * 2 ^ c ≤ 1048576) : N ≤ 1048576 ∧ 2 ^ c ∣ a.C ∧ 2 ^ c ∣ a.L ∧ a.L ≤ 1048576 ∧ b.L ≤ 1048576 ∧ c ≤ 20 := by
  have hp : 0 < 2 ^ c := Nat.pow_pos (by decide)
  have h1 : N ≤ N * 2 ^ c := Nat.le_mul_of_pos_right N hp
  have h2 := h.W.hs
  have h3 := h.hc
  exact ⟨Nat.le_trans h1 hN, Nat.pow_dvd_pow 2 h.hc, by rw [h.aL]; exact Nat.dvd_mul_left _ _, by rw [h.aL]; exact hN, by rw [h.bL]; exact Nat.le_trans h1 hN, Nat.le_trans h3 h2⟩

set_option maxRecDepth 100000 in
theorem get_st (w : World) (base B c N : Nat) (ow : Int) (a b : D) (h : Hid (Cl w base B c N a b)) (hN : Hid (N * 2 ^ c ≤ 1048576)) :
    Calls Try.prog 18 #[.pointer (some ⟨B, 0, none⟩), .int .u8 c, .int .u32 ow] w fun e w' => e = .returned (.int .u32 N) ∧ ∃ a' b', Cl w' base B c (N + 1) a' b' ∧ CStep base B c a b a' b' w w' ∧ a'.s = a.s ∧ b'.s = b.s ∧ (∀ i, i < N * 2 ^ c → a'.f i = a.f i) ∧ (∀ i, i < N → b'.f i = b.f i) ∧ b'.f N = ow := by
  have hbd := cl_bounds h.out hN.out
  have hc20 : c ≤ 20 := hbd.2.2.2.2.2
  have hN20 : N ≤ 1048576 := hbd.1
  have Hbd : Hid (2 ^ c ∣ a.C ∧ 2 ^ c ∣ a.L ∧ a.L ≤ 1048576 ∧ b.L ≤ 1048576) := ⟨hbd.2.1, hbd.2.2.1, hbd.2.2.2.1, hbd.2.2.2.2.1⟩
  clear hbd
  have hs0 : (0 : Int) ≤ (c : Int) := by omega
  have hs1 : (c : Int) ≤ 64 := by omega
  have hs2 : (c : Int) < 64 := by omega
  have hwN := u32_nat N (by omega)
  obtain ⟨n, hn⟩ : ∃ n, n = 2 ^ c := ⟨_, rfl⟩
  have hw1 := wrap_pow c n hn hc20
  have hw2 := wrapk_pow c n hn hc20
  have Hn : Hid (n = 2 ^ c) := hn
  clear hn
  go_enter Try.func18, Try.ntmps18
  go_wp2_with fail
  refine (grow64_st w base B (c * 6) n a h.out.W h.out.box h.out.hb (by rw [Hn.out]; exact Hbd.out.1) (by rw [Hn.out]; exact Hbd.out.2.1) Hbd.out.2.2.1).mono ?_
  rintro _ w1 ⟨rfl, a1, h1⟩
  have Hs1 := h.out.stepW h1.2.1
  go_wp2_with fail
  refine (grow32_st w1 base B (c * 6 + 3) 1 b Hs1.1 h1.2.1.box h.out.hb (Nat.one_dvd _) (Nat.one_dvd _) Hbd.out.2.2.2).mono ?_
  rintro _ w2 ⟨rfl, b2, h2⟩
  rw [h.out.bL]
  have G1 : Hid (Chd 31 29 .u64 w1 base B (c * 6) a1 ∧ Step base B (c * 6) a a1 w w1 ∧ a1.s = a.s ∧ a1.L = a.L + n ∧ ∀ i, i < a.L → a1.f i = a.f i) := h1
  have G2 : Hid (Chd 30 28 .u32 w2 base B (c * 6 + 3) b2 ∧ Step base B (c * 6 + 3) b b2 w1 w2 ∧ b2.s = b.s ∧ b2.L = b.L + 1 ∧ ∀ i, i < b.L → b2.f i = b.f i) := h2
  have GS : Hid (CStep base B c a b a1 b w w1) := Hs1.2
  have GO : Hid (Chd 30 28 .u32 w1 base B (c * 6 + 3) b) := Hs1.1
  clear h1 h2 Hs1
  -- the class behind both
  have GW : Hid (Chd 31 29 .u64 w2 base B (c * 6) a1) := G1.out.1.beside G2.out.2.1 G1.out.2.1.box (by decide) (by decide) (by omega) (fun x hx hx' => G1.out.1.ck.apart GO.out.ck (by decide) (by decide) (by decide) (by decide) hx hx')
  have GS2 : Hid (CStep base B c a1 b a1 b2 w1 w2) := by
    refine ⟨G2.out.2.1.below, G2.out.2.1.box, fun o ho => G2.out.2.1.head o (by omega), fun x k1 k2 _ k4 => G2.out.2.1.rest x k1 k2 k4, ?_⟩
    intro x hx
    rcases hx with hx | hx
    · exact Or.inl (Or.inl hx)
    · rcases G2.out.2.1.new x hx with k1 | k1
      · exact Or.inl (Or.inr k1)
      · exact Or.inr k1
  obtain ⟨q, g, r, hg, hqr, hr, hat⟩ := at32_st G2.out.1 N (by rw [G2.out.2.2.2.1, h.out.bL]; exact Nat.lt_succ_self N)
  have hc := ck_at G2.out.1.ck hg hr
  have hfz := ck_thaw G2.out.1.ck hg r
  have Hgr : Hid (b2.Gs[q]? = some g ∧ q * b2.C + r = N ∧ r < b2.C) := ⟨hg, hqr, hr⟩
  clear hqr hr hg
  go_wp2_with fail
  refine hat.mono ?_
  rintro _ w3 ⟨rfl, k3, hk3⟩
  rw [hk3]
  clear hk3
  go_wp2_with fail
  go_ret
  have GP := (G2.out.1.same (w' := w2.drewN k3) rfl).poke (G2.out.2.1.box.kept rfl) (by decide) (by decide) (by decide) q r g ow Hgr.out.1 Hgr.out.2.2
  rw [Hgr.out.2.1] at GP
  have hcl : Cl (w2.drewN k3) base B c (N + 1) a1 b2 := by
    refine ⟨G2.out.2.1.box.kept rfl, h.out.hb, GW.out.same rfl, G2.out.1.same rfl, by rw [G1.out.2.2.1]; exact h.out.hc, ?_, by rw [G2.out.2.2.2.1, h.out.bL]⟩
    rw [G1.out.2.2.2.1, h.out.aL, Hn.out, Nat.add_mul, Nat.one_mul]
  have hfin := hcl.stepO GP.2
  refine ⟨rfl, a1, b2.poke N ow, ⟨hfin.2.box, h.out.hb, hfin.1, GP.1, hcl.hc, hcl.aL, hcl.bL⟩, ((GS.out.trans GS2.out).trans (CStep.draws G2.out.2.1.box k3)).trans hfin.2, G1.out.2.2.1, G2.out.2.2.1, ?_, ?_, ?_⟩
  · intro i hi
    exact G1.out.2.2.2.2 i (by rw [h.out.aL]; exact hi)
  · intro i hi
    show (if i = N then ow else b2.f i) = b.f i
    rw [if_neg (Nat.ne_of_lt hi)]
    exact G2.out.2.2.2.2 i (by rw [h.out.bL]; exact hi)
  · show (if N = N then ow else b2.f N) = ow
    rw [if_pos rfl]
end Go.Proofs.Qxb6603907a
