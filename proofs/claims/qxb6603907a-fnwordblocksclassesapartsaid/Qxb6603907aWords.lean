import Derived.Test.Qxb6603907aGet
namespace Go.Proofs.Qxb6603907a
open Go.RowKit RowsKit Blocks

theorem mul_shl (b c i : Nat) (hi : i = b * 2 ^ c) (h : i ≤ 2097152) : wrap64 ((b : Int) * 2 ^ c) = (i : Int) ∧ IntKind.i64.wrap ((b : Int) * 2 ^ c) = (i : Int) := by
  have e : (b : Int) * 2 ^ c = (i : Int) := by rw [hi]; exact shl_int b c (2 ^ c) rfl
  rw [e]
  exact ⟨w64_nat i (by omega), k64_nat i (by omega)⟩

theorem block_fits {w : World} {base B c N b0 : Nat} {a b : D} (h : Cl w base B c N a b) (hN : N * 2 ^ c ≤ 1048576) (hb0 : b0 < N) : b0 * 2 ^ c + 2 ^ c ≤ a.L ∧ b0 * 2 ^ c ≤ 2097152 := by
  have h1 : (b0 + 1) * 2 ^ c ≤ N * 2 ^ c := Nat.mul_le_mul_right _ hb0
  rw [Nat.add_mul, Nat.one_mul] at h1
  refine ⟨by rw [h.aL]; exact h1, ?_⟩
  exact Nat.le_trans (Nat.le_trans (Nat.le_add_right _ _) (Nat.le_trans h1 hN)) (by decide)

theorem zzget (w : World) (p c o : Value) (Q : Ending → World → Prop) (h : Calls Try.prog 18 #[p, c, o] w Q) (hq : ∀ e w', Q e w' → ∃ v, e = .returned v) : Calls Try.prog 9 #[p, c, o] w Q := by
  go_enter Try.func9, Try.ntmps9
  go_wp2_with fail
  refine h.mono ?_
  rintro e w' hQ
  obtain ⟨v, rfl⟩ := hq e w' hQ
  go_wp2_with fail
  exact hQ
theorem zzput (w : World) (p c o : Value) (Q : Ending → World → Prop) (h : Calls Try.prog 20 #[p, c, o] w Q) (hq : ∀ e w', Q e w' → ∃ v, e = .returned v) : Calls Try.prog 11 #[p, c, o] w Q := by
  go_enter Try.func11, Try.ntmps11
  go_wp2_with fail
  refine h.mono ?_
  rintro e w' hQ
  obtain ⟨v, rfl⟩ := hq e w' hQ
  go_wp2_with fail
  exact hQ
theorem zzwords (w : World) (p c o : Value) (Q : Ending → World → Prop) (h : Calls Try.prog 24 #[p, c, o] w Q) (hq : ∀ e w', Q e w' → ∃ v, e = .returned v) : Calls Try.prog 19 #[p, c, o] w Q := by
  go_enter Try.func19, Try.ntmps19
  go_wp2_with fail
  refine h.mono ?_
  rintro e w' hQ
  obtain ⟨v, rfl⟩ := hq e w' hQ
  go_wp2_with fail
  exact hQ

/-- where the words of a block lie, and that 'words' says so -/
theorem words_st (w : World) (base B c N b0 n : Nat) (a b : D) (h : Cl w base B c N a b) (hN : N * 2 ^ c ≤ 1048576) (hb0 : b0 < N) (hn : n = 2 ^ c) :
    ∃ q g r, a.Gs[q]? = some g ∧ q * a.C + r = b0 * 2 ^ c ∧ r + n ≤ a.C ∧ Calls Try.prog 19 #[.pointer (some ⟨B, 0, none⟩), .int .u8 c, .int .u32 b0] w fun e w' => e = .returned (.slice (some ⟨g, r, none⟩) n n) ∧ ∃ k, w' = w.drewN k := by
  have hbd := cl_bounds h hN
  have hf := block_fits h hN hb0
  obtain ⟨q, g, r, h1, h2, h3, hrun⟩ := run64_st h.W (b0 * 2 ^ c) (2 ^ c) (Nat.pow_pos (by decide)) hbd.2.1 (Nat.dvd_mul_left _ _) hf.1
  refine ⟨q, g, r, h1, h2, by rw [hn]; exact h3, ?_⟩
  have hc20 : c ≤ 20 := hbd.2.2.2.2.2
  have hN20 := hbd.1
  have hs0 : (0 : Int) ≤ (c : Int) := by omega
  have hs1 : (c : Int) ≤ 64 := by omega
  have hs2 : (c : Int) < 64 := by omega
  have hcv := k64_nat b0 (by omega)
  obtain ⟨i, hi⟩ : ∃ i, i = b0 * 2 ^ c := ⟨_, rfl⟩
  rw [← hi, ← hn] at hrun
  have hm1 := (mul_shl b0 c i hi (by rw [hi]; exact hf.2)).1
  have hm2 := (mul_shl b0 c i hi (by rw [hi]; exact hf.2)).2
  have hw1 := wrap_pow c n hn hc20
  have hw2 := wrapk_pow c n hn hc20
  clear hn hi hbd hf h2 h3 hN hb0 h1
  refine zzwords _ _ _ _ _ ?_ (fun e w' hq => ⟨_, hq.1⟩)
  go_enter Try.func24, Try.ntmps24
  go_wp2_with fail
  refine hrun.mono ?_
  rintro _ w3 ⟨rfl, k3, hk3⟩
  rw [hk3]
  clear hk3
  go_wp2_with fail
  go_ret
  exact ⟨rfl, _, rfl⟩
end Go.Proofs.Qxb6603907a
