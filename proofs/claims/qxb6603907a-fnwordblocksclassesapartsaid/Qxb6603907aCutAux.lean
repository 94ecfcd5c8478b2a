import Derived.Test.Qxb6603907aCutArith
import Derived.Test.Qxb6603907aGrowSt
import Derived.Test.Qxb6603907aRun32
import Derived.Test.Qxb6603907aStepFits
import Derived.Laws.CopyOwn
import Derived.BigRegion
import Derived.Deep.CutBlock
import Derived.Deep.DeepCutAuto
import Derived.Deep.LoopGhost
namespace Go.Proofs.Qxb6603907a
open Go.RowKit RowsKit Blocks

theorem w64_nat (n : Nat) (h : n ≤ 9223372036854775807) : wrap64 (n : Int) = (n : Int) := by unfold wrap64; omega
theorem k64_nat (n : Nat) (h : n ≤ 9223372036854775807) : IntKind.i64.wrap (n : Int) = (n : Int) := IntWalk.i64_in _ ⟨by omega, by omega⟩
theorem shl_int (m s C : Nat) (hC : C = 2 ^ s) : (m : Int) * 2 ^ s = ((m * C : Nat) : Int) := by rw [hC, pow_int]; exact (Int.natCast_mul _ _).symm

theorem wrap_pred (m : Nat) (h : m ≤ 2097152) : wrap64 ((m : Int) - 1) = (m : Int) - 1 := by unfold wrap64; omega
theorem mul2 (m c : Nat) (hc : c = 2 * m) (h : m ≤ 2097152) : wrap64 (2 * (m : Int)) = (c : Int) ∧ IntKind.i64.wrap (2 * (m : Int)) = (c : Int) := by
  refine ⟨?_, ?_⟩
  · unfold wrap64; omega
  · rw [IntKind.wrap_i64]; omega
theorem run_make0 {P : Program} (t e : TypeId) (i : TypeInfo) (z : Value) (ht : P.underlying t = some (.slice e)) (hi : P.info? e = some i) (hz : i.zero = some z) (hsize : i.size = 1) (hb : i.bytes = 24) (hz1 : z.cells = #[z]) (c : Nat) (hc : c ≤ 4194304) (w : World) :
    (Instr.makeSlice t (.int .i64 0) (.int .i64 (c : Int))).run P w = .ok (.slice (some ⟨w.heap.size, 0, none⟩) 0 c) (w.alloc (.cells (madeCells #[z] c) e)) := by
  have hr := run_make (P := P) w t e i z ht hi hz .i64 .i64 0 c (Int.le_refl _) (by omega) (by rw [hb]; omega) (by omega)
  simp only [Int.toNat_zero, Int.toNat_natCast, hsize, Nat.mul_one, hz1] at hr
  exact hr
theorem quo4 (cap m q4 : Nat) (h : q4 = cap / 4) (hlt : m < q4) : 0 < cap := by omega
theorem row_some {w : World} {base e n cap : Nat} {ao : Option Addr} {xs : List Value} (h : Row.owned w base ⟨e, 1, ao, n, cap, xs⟩) (hc : 0 < cap) : ∃ R, ao = some ⟨R, 0, none⟩ := by
  rcases h.2 with ⟨h1, h2⟩ | ⟨g, cap', cur, h1, _⟩
  · simp only [Value.slice.injEq] at h1
    omega
  · simp only [Value.slice.injEq, true_and] at h1
    exact ⟨g, h1.1⟩
theorem cap_ge {w : World} {base e n cap : Nat} {ao : Option Addr} {xs : List Value} (h : Row.owned w base ⟨e, 1, ao, n, cap, xs⟩) : n ≤ cap ∧ cap ≤ maxLen := by
  rcases h.2 with ⟨h1, h2⟩ | ⟨g, cap', cur, h1, h2, h3, h4, h5, h6, h7⟩
  · simp only [Value.slice.injEq] at h1
    obtain ⟨_, h3, h4⟩ := h1
    have h5 : n = 0 := h2
    subst h5
    subst h4
    exact ⟨Nat.le_refl _, Nat.zero_le _⟩
  · simp only [Value.slice.injEq, true_and] at h1
    obtain ⟨_, rfl⟩ := h1
    exact ⟨h4, h5⟩

theorem Try.one30 : (Try.prog.info? 30).map (·.size) = some 1 := by kernel_rfl
theorem Try.one31 : (Try.prog.info? 31).map (·.size) = some 1 := by kernel_rfl

theorem ck_at {E SE : TypeId} {k : IntKind} {w : World} {base : Nat} {d : D} (h : Ck E SE k w base d) {q g r : Nat} (hq : d.Gs[q]? = some g) (hr : r < d.C) : w.cell? ⟨g, r, none⟩ = some (.int k (d.f (q * d.C + r))) := by
  obtain ⟨cur, c1, _, c3⟩ := h.cell q g hq
  unfold World.cell?
  rw [c1]
  exact c3 r hr

theorem segs_src {E SE : TypeId} {k : IntKind} {w : World} {base : Nat} {d : D} (h : Ck E SE k w base d) {q g r n x : Nat} (hq : d.Gs[q]? = some g) (hr : r + n ≤ d.C) (hx : q * d.C + r = x) :
    ∀ j v, (segs k d.f x n)[j]? = some v → w.cell? ((⟨g, r, none⟩ : Addr).add j) = some v := by
  intro j v hv
  have hj : j < n := by
    have := (List.getElem?_eq_some_iff.1 hv).1
    rwa [segs_len] at this
  rw [segs_at _ _ _ _ _ hj] at hv
  rw [Addr.add_lit, ck_at h hq (by omega), ← hv, ← hx, Nat.add_assoc]
theorem segs_one (k : IntKind) (f : Nat → Int) (x n : Nat) : ∀ v ∈ segs k f x n, v.oneCell' = true := by
  intro v hv
  simp only [segs, List.mem_map] at hv
  obtain ⟨t, _, rfl⟩ := hv
  rfl

theorem swap_facts {d : D} {i n lst q1 q2 r1 r2 g1 g2 : Nat} (hC : n = d.C) (hn : 0 < n) (h1 : r1 + n ≤ d.C) (h2 : r2 + n ≤ d.C) (e1 : q1 * d.C + r1 = i) (e2 : q2 * d.C + r2 = lst) (hl : lst = d.L - n) (hne : ¬ i = lst) : Moved d (d.swap q1 q2 g1 g2) i n ∧ q1 ≠ q2 := by
  have z1 : r1 = 0 := by omega
  have z2 : r2 = 0 := by omega
  subst z1
  subst z2
  refine ⟨moved_swap hC hn e1 (e2.trans hl), ?_⟩
  intro e
  subst e
  exact hne (e1.symm.trans e2)

theorem Step.refl {base B off : Nat} {d : D} {w : World} (hB : Box w B) : Step base B off d d w w := ⟨Below.refl _ _, hB, fun _ _ => rfl, fun _ _ _ _ => rfl, fun _ h => Or.inl h⟩

end Go.Proofs.Qxb6603907a
