import Derived.Test.Qxb6603907aRows
import Derived.Test.Qxb6603907aApart
import Derived.Test.Qxb6603907aApartEarly
import Derived.WalkKit
import Derived.ProofKit
import Derived.OpenShut
import Derived.ShutString
import Derived.ChangeOld
import Derived.Below
namespace Go.Proofs.Qxb6603907a.fnWordBlocksClassesApart
open Go.ChangeShapes Go.WideShapes Go.ChangeAt Go.RowKit RowsKit Blocks
set_option linter.unusedVariables false

theorem own : ownKnob Try.prog.godebug = none := by kernel_rfl
theorem laidOut : laidOutB Try.prog = true := by kernel_rfl

theorem walk (x0 x1 x2 x3 x4 : Int) (w0 : (Lit.int .u8 x0).wf = true) (w1 : (Lit.int .u8 x1).wf = true) (w2 : (Lit.int .u8 x2).wf = true) (w3 : (Lit.int .u8 x3).wf = true) (w4 : (Lit.int .u8 x4).wf = true) (a5 a6 : Option Addr) (n1 k1 n2 k2 : Nat) (w : World) (h5 : IsRow32 w a5 n1 k1) (h6 : IsSteps w a6 n2 k2) :
    Calls Try.prog 4 #[.int .u8 x0, .int .u8 x1, .int .u8 x2, .int .u8 x3, .int .u8 x4, .slice a5 n1 k1, .slice a6 n2 k2] w fun e w' => e = .returned (.bool true) ∧ Below w.heap.size w w' := by
  obtain ⟨c1, rfl⟩ := Int.eq_ofNat_of_zero_le (bounds_u8 w0).1
  obtain ⟨c2, rfl⟩ := Int.eq_ofNat_of_zero_le (bounds_u8 w1).1
  obtain ⟨s1, rfl⟩ := Int.eq_ofNat_of_zero_le (bounds_u8 w2).1
  obtain ⟨s2, rfl⟩ := Int.eq_ofNat_of_zero_le (bounds_u8 w3).1
  obtain ⟨so, rfl⟩ := Int.eq_ofNat_of_zero_le (bounds_u8 w4).1
  clear w0 w1 w2 w3 w4
  by_cases hA1 : (4096 : Int) < (n1 : Int)
  · exact earlyA1 c1 c2 s1 s2 so n1 k1 n2 k2 a5 a6 w hA1
  by_cases hA2 : (4096 : Int) < (n2 : Int)
  · exact earlyA2 c1 c2 s1 s2 so n1 k1 n2 k2 a5 a6 w hA1 hA2
  by_cases hB1 : (20 : Int) < (c1 : Int)
  · exact earlyB1 c1 c2 s1 s2 so n1 k1 n2 k2 a5 a6 w hA1 hA2 hB1
  by_cases hB2 : (20 : Int) < (c2 : Int)
  · exact earlyB2 c1 c2 s1 s2 so n1 k1 n2 k2 a5 a6 w hA1 hA2 hB1 hB2
  by_cases hB3 : (20 : Int) < (s1 : Int)
  · exact earlyB3 c1 c2 s1 s2 so n1 k1 n2 k2 a5 a6 w hA1 hA2 hB1 hB2 hB3
  by_cases hB4 : (20 : Int) < (s2 : Int)
  · exact earlyB4 c1 c2 s1 s2 so n1 k1 n2 k2 a5 a6 w hA1 hA2 hB1 hB2 hB3 hB4
  by_cases hB5 : (20 : Int) < (so : Int)
  · exact earlyB5 c1 c2 s1 s2 so n1 k1 n2 k2 a5 a6 w hA1 hA2 hB1 hB2 hB3 hB4 hB5
  cases hC1 : ((c1 : Int) == (c2 : Int))
  case true => exact earlyC1 c1 c2 s1 s2 so n1 k1 n2 k2 a5 a6 w hA1 hA2 hB1 hB2 hB3 hB4 hB5 hC1
  by_cases hC2 : (s1 : Int) < (c1 : Int)
  · exact earlyC2 c1 c2 s1 s2 so n1 k1 n2 k2 a5 a6 w hA1 hA2 hB1 hB2 hB3 hB4 hB5 hC1 hC2
  by_cases hC3 : (s2 : Int) < (c2 : Int)
  · exact earlyC3 c1 c2 s1 s2 so n1 k1 n2 k2 a5 a6 w hA1 hA2 hB1 hB2 hB3 hB4 hB5 hC1 hC2 hC3
  obtain ⟨p1, hp1⟩ : ∃ p, p = n1 * 2 ^ c2 := ⟨_, rfl⟩
  obtain ⟨p2, hp2⟩ : ∃ p, p = n2 * 2 ^ c1 := ⟨_, rfl⟩
  by_cases hD1 : (1048576 : Int) < (p2 : Int)
  · exact earlyD1 c1 c2 s1 s2 so n1 k1 n2 k2 a5 a6 w hA1 hA2 hB1 hB2 hB3 hB4 hB5 hC1 hC2 hC3 p1 p2 hp1 hp2 hD1
  by_cases hD2 : (1048576 : Int) < (p1 : Int)
  · exact earlyD2 c1 c2 s1 s2 so n1 k1 n2 k2 a5 a6 w hA1 hA2 hB1 hB2 hB3 hB4 hB5 hC1 hC2 hC3 p1 p2 hp1 hp2 hD1 hD2
  have hne : c1 ≠ c2 := by
    intro e
    rw [beq_eq_false_iff_ne] at hC1
    exact hC1 (by rw [e])
  obtain ⟨os, hcl⟩ := owners_any h5 (by omega)
  exact apart_rest w c1 c2 s1 s2 so n1 k1 n2 k2 a5 a6 os (by omega) (by omega) (by omega) (by omega) (by omega) hne (by omega) (by omega) (by omega) (by omega) (by show _ ≤ _; rw [← hp1]; omega) (by show _ ≤ _; rw [← hp2]; omega) h6 hcl

/-! ### THE ROW's STEP -/
set_option maxRecDepth 100000 in
theorem lifted (os : Os) (started : os.Started) (H : Type) (enc : TypeId × Value → H) :
    ReturnsInHanded {} Try.checked os 4 .any (Rows.fnWordBlocksClassesApartSpec.pre6 enc Try.prog Try.f4 Rows.fnWordBlocksClassesApartRow.domain false) (Rows.fnWordBlocksClassesApartSpec.post enc Try.prog Try.f4 false true false false) := by
  refine returnsInHanded_of_change (C := Try.checked) own started (by kernel_rfl) Try.func4
    (ChangeSpec.witness6 (enc := enc) (C := Try.checked) false ⟨#[], #[.int .u8 0, .int .u8 0, .int .u8 0, .int .u8 0, .int .u8 0, .slice none 0 0, .slice none 0 0], []⟩ 8 (by kernel_rfl) (by kernel_rfl) (by kernel_rfl) (by kernel_rfl)) ?_
  intro W base args ds gs before hval0 hW hcnd _
  have hval : ∀ (j : Nat) t v, Try.f4.params[j]? = some t → args[j]? = some v → Value.okWide Try.prog W .any base t v := hval0
  have hW' := hW
  obtain ⟨p, q, hA0, hV, rfl, hfz, hnd⟩ := hW
  have hA : DataW.TrodAll enc Try.prog W 0 (fun _ => true) true Try.f4.params.toList args.toList ds p := hA0
  rw [Try.params4] at hA hval
  obtain ⟨v0, vs0, d0, ds0, p0, q0, hargs, rfl, rfl, h0, r0⟩ := trodAll_cons hA
  obtain ⟨v1, vs1, d1, ds1, p1, q1, rfl, rfl, rfl, h1, r1⟩ := trodAll_cons r0
  obtain ⟨v2, vs2, d2, ds2, p2, q2, rfl, rfl, rfl, h2, r2⟩ := trodAll_cons r1
  obtain ⟨v3, vs3, d3, ds3, p3, q3, rfl, rfl, rfl, h3, r3⟩ := trodAll_cons r2
  obtain ⟨v4, vs4, d4, ds4, p4, q4, rfl, rfl, rfl, h4, r4⟩ := trodAll_cons r3
  obtain ⟨v5, vs5, d5, ds5, p5, q5, rfl, rfl, rfl, h5, r5⟩ := trodAll_cons r4
  obtain ⟨v6, vs6, d6, ds6, p6, q6, rfl, rfl, rfl, h6, r6⟩ := trodAll_cons r5
  obtain ⟨rfl, rfl, rfl⟩ := trodAll_nil r6
  obtain rfl : args = #[v0, v1, v2, v3, v4, v5, v6] := by cases args; simp_all
  obtain ⟨rfl, rfl⟩ := trodVars_none hV
  obtain ⟨x0, rfl, rfl, rfl, w0⟩ := open_int Try.underlying5 (hval 0 5 v0 rfl rfl) h0
  obtain ⟨x1, rfl, rfl, rfl, w1⟩ := open_int Try.underlying5 (hval 1 5 v1 rfl rfl) h1
  obtain ⟨x2, rfl, rfl, rfl, w2⟩ := open_int Try.underlying5 (hval 2 5 v2 rfl rfl) h2
  obtain ⟨x3, rfl, rfl, rfl, w3⟩ := open_int Try.underlying5 (hval 3 5 v3 rfl rfl) h3
  obtain ⟨x4, rfl, rfl, rfl, w4⟩ := open_int Try.underlying5 (hval 4 5 v4 rfl rfl) h4
  obtain ⟨a5, len5, cap5, rfl⟩ := okWide_slice Try.underlying28 (hval 5 28 v5 rfl rfl)
  obtain ⟨a6, len6, cap6, rfl⟩ := okWide_slice Try.underlying22 (hval 6 22 v6 rfl rfl)
  have k5 := h5
  have k6 := h6
  have lt5 : ∀ x ∈ p5, x.block < W.heap.size := by obtain ⟨m, hm⟩ := k5; exact DataW.trod_lt m _ _ _ hm
  have lt6 : ∀ x ∈ p6, x.block < W.heap.size := by obtain ⟨m, hm⟩ := k6; exact DataW.trod_lt m _ _ _ hm
  have s5 : IsRow32 W a5 len5 cap5 := by
    obtain ⟨fuel, hf⟩ := h5
    rcases open_ints Try.underlying28 Try.underlying30 (by kernel_rfl) hf with ⟨hcs, _⟩ | ⟨x, l, c, zs, hcs, _, hl, hm, hz, _, hcell, hwz⟩
    · simp [Value.cells] at hcs
      obtain ⟨rfl, rfl, rfl⟩ := hcs
      exact Or.inl ⟨rfl, rfl, rfl⟩
    · simp [Value.cells] at hcs
      obtain ⟨rfl, rfl, rfl⟩ := hcs
      exact Or.inr ⟨_, zs, rfl, hl, hm, by simpa using hz, hcell⟩
  have s6 : IsSteps W a6 len6 cap6 := by
    obtain ⟨fuel, hf⟩ := h6
    rcases open_steps hf with hcs | ⟨ad, len, cap, q, hcs, hl, hm, hq⟩
    · simp [Value.cells] at hcs
      obtain ⟨rfl, rfl, rfl⟩ := hcs
      exact Or.inl ⟨rfl, rfl, rfl⟩
    · simp [Value.cells] at hcs
      obtain ⟨rfl, rfl, rfl⟩ := hcs
      exact Or.inr ⟨ad, q, rfl, hl, hm, hq⟩
  clear hA0 hval0
  refine (walk x0 x1 x2 x3 x4 w0 w1 w2 w3 w4 a5 a6 len5 cap5 len6 cap6 W s5 s6).mono fun e W' ⟨he, bel⟩ => ?_
  subst he
  exact ⟨_, rfl, _, _, _, [], _, [], hW', trodAll_mk1 (shut_bool Try.underlying4 _), (trodAll_cons_mk (shut_int Try.underlying5 w0) (trodAll_cons_mk (shut_int Try.underlying5 w1) (trodAll_cons_mk (shut_int Try.underlying5 w2) (trodAll_cons_mk (shut_int Try.underlying5 w3) (trodAll_cons_mk (shut_int Try.underlying5 w4) (trodAll_cons_mk (Below.trod laidOut (by kernel_rfl) (of_decide_eq_true (by kernel_rfl)) k5 bel lt5) (trodAll_cons_mk (Below.trod laidOut (by kernel_rfl) (of_decide_eq_true (by kernel_rfl)) k6 bel lt6) trodAll_mk0))))))), rfl, bel.frame _, fun h => by cases h⟩

theorem over : Rows.fnWordBlocksClassesApartRow.holds Try.pinned (OpenSpec.ofChange Rows.fnWordBlocksClassesApartSpec) :=
  OpenClaim.holds_of_wide 4 Try.f4 rfl rfl rfl rfl rfl rfl rfl ⟨rfl, rfl, rfl, rfl, rfl⟩ rfl rfl rfl rfl rfl (by kernel_rfl) Try.func4 (by kernel_rfl)
    (of_decide_eq_true (by kernel_rfl)) (by unfold Func.isWrapper; first | (rw [if_pos (by decide +kernel)]; kernel_rfl) | (rw [if_neg (by decide +kernel)]; exact ⟨rfl, rfl⟩))
    (fun os started H enc _ => lifted os started H enc)

/-- THE STATEMENT -/
theorem proved : Rows.FnWordBlocksClassesApartSaid := over
end Go.Proofs.Qxb6603907a.fnWordBlocksClassesApart
