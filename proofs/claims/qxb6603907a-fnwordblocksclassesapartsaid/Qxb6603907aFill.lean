import Derived.Test.Qxb6603907aWords
namespace Go.Proofs.Qxb6603907a
open Go.RowKit RowsKit Blocks

/-- block 'i' holds x, x + 1, .. -/
def BH (a : D) (c i : Nat) (x : Int) : Prop := ∀ j, j < 2 ^ c → a.f (i * 2 ^ c + j) = IntKind.u64.wrap (x + (j : Int))

def FillE (a a' : D) (c b0 : Nat) : Prop := ∀ j, ¬ (b0 * 2 ^ c ≤ j ∧ j < b0 * 2 ^ c + 2 ^ c) → a'.f j = a.f j

theorem u64_nat (n : Nat) (h : n ≤ 9223372036854775807) : IntKind.u64.wrap (n : Int) = (n : Int) := by
  rw [IntKind.wrap_u64]; omega

set_option maxRecDepth 100000 in
theorem fill_st (w : World) (base B c N b0 : Nat) (x : Int) (a b : D) (h : Hid (Cl w base B c N a b)) (hN : Hid (N * 2 ^ c ≤ 1048576)) (hb0 : Hid (b0 < N)) :
    Calls Try.prog 10 #[.pointer (some ⟨B, 0, none⟩), .int .u8 c, .int .u32 b0, .int .u64 x] w fun e w' => e = .returned (.bool true) ∧ ∃ a', Cl w' base B c N a' b ∧ CStep base B c a b a' b w w' ∧ a'.s = a.s ∧ BH a' c b0 x ∧ FillE a a' c b0 := by
  have hbd := cl_bounds h.out hN.out
  have hc20 : c ≤ 20 := hbd.2.2.2.2.2
  clear hbd
  obtain ⟨n, hn⟩ : ∃ n, n = 2 ^ c := ⟨_, rfl⟩
  obtain ⟨q, g, r, hg, hqr, hr, hwd⟩ := words_st w base B c N b0 n a b h.out hN.out hb0.out hn
  have hs0 : (0 : Int) ≤ (c : Int) := by omega
  have hs1 : (c : Int) ≤ 64 := by omega
  have hw1 := wrap_pow c n hn hc20
  have hw2 := wrapk_pow c n hn hc20
  have hnle : n ≤ 1048576 := by rw [hn]; exact pow_le c hc20
  have hnn : ((n : Int) != (n : Int)) = false := by simp
  have Hn : Hid (n = 2 ^ c) := hn
  have Hg : Hid (a.Gs[q]? = some g ∧ q * a.C + r = b0 * 2 ^ c ∧ r + n ≤ a.C) := ⟨hg, hqr, hr⟩
  clear hn hg hqr hr
  go_enter Try.func10, Try.ntmps10
  go_wp2_with fail
  refine hwd.mono ?_
  rintro _ w1 ⟨rfl, k1, hk1⟩
  rw [hk1]
  clear hk1 hwd
  go_wp2_with fail
  clear hw1 hw2 hnn hs0 hs1
  go_loopg [10] n (fun gk v10 wx => ∃ (t : Nat) (a' : D), v10 = .int .i64 t ∧ t ≤ n ∧ gk = n - t ∧ Hid (Cl wx base B c N a' b ∧ CStep base B c a b a' b w wx ∧ a'.Gs = a.Gs ∧ a'.s = a.s ∧ (∀ j, j < t → a'.f (b0 * 2 ^ c + j) = IntKind.u64.wrap (x + (j : Int))) ∧ ∀ j, ¬ (b0 * 2 ^ c ≤ j ∧ j < b0 * 2 ^ c + 2 ^ c) → a'.f j = a.f j))
  case atStart => exact ⟨0, a, rfl, Nat.zero_le _, rfl, h.out.same rfl, CStep.draws h.out.box _, rfl, rfl, (fun j hj => absurd hj (Nat.not_lt_zero j)), fun _ _ => rfl⟩
  case round =>
    obtain ⟨t, a', rfl, htn, rfl, HR⟩ := hrel
    by_cases ht : t < n
    · have hti : (t : Int) < (n : Int) := by omega
      have hCe : a'.C = a.C := by show 2 ^ a'.s = 2 ^ a.s; rw [HR.out.2.2.2.1]
      have hg' : a'.Gs[q]? = some g := by rw [HR.out.2.2.1]; exact Hg.out.1
      have hrt : r + t < a'.C := by rw [hCe]; exact Nat.lt_of_lt_of_le (Nat.add_lt_add_left ht r) Hg.out.2.2
      have hc := ck_at HR.out.1.W.ck hg' hrt
      have hfz := ck_thaw HR.out.1.W.ck hg' (r + t)
      have hcv := u64_nat t (by omega)
      have Hp := HR.out.1.W.poke HR.out.1.box (by decide) (by decide) (by decide) q (r + t) g (IntKind.u64.wrap (x + (t : Int))) hg' hrt
      have hix : q * a'.C + (r + t) = b0 * 2 ^ c + t := by rw [hCe, ← Nat.add_assoc, Hg.out.2.1]
      rw [hix] at Hp
      have HP : Hid (Chd 31 29 .u64 (wr.setCell ⟨g, r + t, none⟩ (.int .u64 (IntKind.u64.wrap (x + (t : Int))))) base B (c * 6) (a'.poke (b0 * 2 ^ c + t) (IntKind.u64.wrap (x + (t : Int)))) ∧ Step base B (c * 6) a' (a'.poke (b0 * 2 ^ c + t) (IntKind.u64.wrap (x + (t : Int)))) wr (wr.setCell ⟨g, r + t, none⟩ (.int .u64 (IntKind.u64.wrap (x + (t : Int)))))) := Hp
      have hm : n - (t + 1) < n - t := by omega
      clear Hp hix hg' hrt hCe
      go_wp2_with fail
      go_roundg (n - (t + 1))
      case measure => exact hm
      case rel =>
        have hst := HR.out.1.stepW HP.out.2
        refine ⟨t + 1, a'.poke (b0 * 2 ^ c + t) (IntKind.u64.wrap (x + (t : Int))), by go_num, ht, rfl, ⟨hst.2.box, HR.out.1.hb, HP.out.1, hst.1, HR.out.1.hc, HR.out.1.aL, HR.out.1.bL⟩, HR.out.2.1.trans hst.2, HR.out.2.2.1, HR.out.2.2.2.1, ?_, ?_⟩
        · intro j hj
          show (if b0 * 2 ^ c + j = b0 * 2 ^ c + t then IntKind.u64.wrap (x + (t : Int)) else a'.f (b0 * 2 ^ c + j)) = _
          by_cases e : j = t
          · rw [if_pos (by rw [e]), e]
          · rw [if_neg (by omega)]
            exact HR.out.2.2.2.2.1 j (by omega)
        · intro j hj
          show (if j = b0 * 2 ^ c + t then IntKind.u64.wrap (x + (t : Int)) else a'.f j) = _
          rw [if_neg]
          · exact HR.out.2.2.2.2.2 j hj
          · intro e
            rw [e] at hj
            exact hj ⟨Nat.le_add_right _ _, Nat.add_lt_add_left (by rw [← Hn.out]; exact ht) _⟩
    · have hti : ¬ (t : Int) < (n : Int) := by omega
      have hte : t = n := by omega
      subst hte
      go_wp2_with fail
      go_ret
      exact ⟨rfl, a', HR.out.1, HR.out.2.1, HR.out.2.2.2.1, fun j hj => HR.out.2.2.2.2.1 j (by rw [Hn.out]; exact hj), HR.out.2.2.2.2.2⟩

set_option maxRecDepth 100000 in
theorem holds_st (w : World) (base B c N b0 : Nat) (x : Int) (a b : D) (h : Hid (Cl w base B c N a b)) (hN : Hid (N * 2 ^ c ≤ 1048576)) (hb0 : Hid (b0 < N)) (hh : Hid (BH a c b0 x)) :
    Calls Try.prog 12 #[.pointer (some ⟨B, 0, none⟩), .int .u8 c, .int .u32 b0, .int .u64 x] w fun e w' => e = .returned (.bool true) ∧ ∃ k, w' = w.drewN k := by
  have hbd := cl_bounds h.out hN.out
  have hc20 : c ≤ 20 := hbd.2.2.2.2.2
  clear hbd
  obtain ⟨n, hn⟩ : ∃ n, n = 2 ^ c := ⟨_, rfl⟩
  obtain ⟨q, g, r, hg, hqr, hr, hwd⟩ := words_st w base B c N b0 n a b h.out hN.out hb0.out hn
  have hs0 : (0 : Int) ≤ (c : Int) := by omega
  have hs1 : (c : Int) ≤ 64 := by omega
  have hw1 := wrap_pow c n hn hc20
  have hw2 := wrapk_pow c n hn hc20
  have hnle : n ≤ 1048576 := by rw [hn]; exact pow_le c hc20
  have hnn : ((n : Int) != (n : Int)) = false := by simp
  have Hc : Hid (∀ t, t < n → w.cell? ⟨g, r + t, none⟩ = some (.int .u64 (IntKind.u64.wrap (x + (t : Int))))) := by
    intro t ht
    have h1 := ck_at h.out.W.ck hg (r := r + t) (by omega)
    rw [← Nat.add_assoc, hqr, hh.out t (by rw [← hn]; exact ht)] at h1
    exact h1
  clear hn hg hqr hr
  go_enter Try.func12, Try.ntmps12
  go_wp2_with fail
  refine hwd.mono ?_
  rintro _ w1 ⟨rfl, k1, hk1⟩
  rw [hk1]
  clear hk1 hwd
  go_wp2_with fail
  clear hw1 hw2 hnn hs0 hs1
  go_loopg [10] n (fun gk v10 wx => ∃ (t : Nat), v10 = .int .i64 t ∧ t ≤ n ∧ gk = n - t ∧ wx = w.drewN k1)
  case atStart => exact ⟨0, rfl, Nat.zero_le _, rfl, rfl⟩
  case round =>
    obtain ⟨t, rfl, htn, rfl, hwr⟩ := hrel
    rw [hwr]
    clear hwr
    by_cases ht : t < n
    · have hti : (t : Int) < (n : Int) := by omega
      have hc := Hc.out t ht
      have hcv := u64_nat t (by omega)
      have hm : n - (t + 1) < n - t := by omega
      have hee : (IntKind.u64.wrap (x + (t : Int)) != IntKind.u64.wrap (x + (t : Int))) = false := by simp
      go_wp2_with fail
      go_roundg (n - (t + 1))
      case measure => exact hm
      case rel => exact ⟨t + 1, by go_num, ht, rfl, rfl⟩
    · have hti : ¬ (t : Int) < (n : Int) := by omega
      go_wp2_with fail
      go_ret
      exact ⟨rfl, k1, rfl⟩
end Go.Proofs.Qxb6603907a
