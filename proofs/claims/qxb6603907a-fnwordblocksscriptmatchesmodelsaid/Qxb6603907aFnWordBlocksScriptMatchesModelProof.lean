import Derived.Test.Qxb6603907aRows
import Derived.Test.Qxb6603907aOpenOps
import Derived.WalkKit
import Derived.ProofKit
import Derived.OpenShut
import Derived.ShutString
import Derived.ChangeOld
import Derived.Below
namespace Go.Proofs.Qxb6603907a.fnWordBlocksScriptMatchesModel
open Go.ChangeShapes Go.WideShapes Go.ChangeAt Go.RowKit RowsKit Blocks
set_option linter.unusedVariables false

theorem own : ownKnob Try.prog.godebug = none := by kernel_rfl
theorem laidOut : laidOutB Try.prog = true := by kernel_rfl

set_option maxRecDepth 100000 in
theorem early5 (c s1 s2 n cap : Nat) (a0 : Option Addr) (w : World) (h : (1048576 : Int) < (n : Int)) : Calls Try.prog 3 #[.int .u8 c, .int .u8 s1, .int .u8 s2, .slice a0 n cap] w fun e w' => e = .returned (.bool true) ∧ Below w.heap.size w w' := by
  go_enter Try.func3, Try.ntmps3
  go_wp2_with fail
  refine (bytes3_no _ _ _ _ _ _ _ h).mono ?_
  rintro _ w0 ⟨rfl, hw0⟩
  rw [hw0]
  clear hw0
  go_wp2_with fail
  go_ret
  exact ⟨rfl, Below.refl _ _⟩
set_option maxRecDepth 100000 in
theorem early1 (c s1 s2 n cap : Nat) (a0 : Option Addr) (w : World) (h : ¬ (1048576 : Int) < (n : Int)) (h2 : (4096 : Int) < (n : Int)) : Calls Try.prog 3 #[.int .u8 c, .int .u8 s1, .int .u8 s2, .slice a0 n cap] w fun e w' => e = .returned (.bool true) ∧ Below w.heap.size w w' := by
  go_enter Try.func3, Try.ntmps3
  go_wp2_with fail
  refine (bytes3_yes _ _ _ _ _ _ _ (by omega)).mono ?_
  rintro _ w0 ⟨rfl, hw0⟩
  rw [hw0]
  clear hw0
  go_wp2_with fail
  go_ret
  exact ⟨rfl, Below.refl _ _⟩
set_option maxRecDepth 100000 in
theorem early2 (c s1 s2 n cap : Nat) (a0 : Option Addr) (w : World) (h2 : ¬ (4096 : Int) < (n : Int)) (b1 b2 b3 : Bool) (h3 : decide ((20 : Int) < (c : Int)) = b1) (h4 : decide ((20 : Int) < (s1 : Int)) = b2) (h5 : decide ((20 : Int) < (s2 : Int)) = b3) (hb : (b1 || b2 || b3) = true) : Calls Try.prog 3 #[.int .u8 c, .int .u8 s1, .int .u8 s2, .slice a0 n cap] w fun e w' => e = .returned (.bool true) ∧ Below w.heap.size w w' := by
  go_enter Try.func3, Try.ntmps3
  go_wp2_with fail
  refine (bytes3_yes _ _ _ _ _ _ _ (by omega)).mono ?_
  rintro _ w0 ⟨rfl, hw0⟩
  rw [hw0]
  clear hw0
  cases b1 <;> cases b2 <;> cases b3 <;> first
    | exact absurd hb (by decide)
    | (clear hb
       simp only [decide_eq_true_eq, decide_eq_false_iff_not] at h3 h4 h5
       go_wp2_with fail
       go_ret
       exact ⟨rfl, Below.refl _ _⟩)
set_option maxRecDepth 100000 in
theorem early3 (c s1 s2 n cap : Nat) (a0 : Option Addr) (w : World) (h2 : ¬ (4096 : Int) < (n : Int)) (h3 : ¬ (20 : Int) < (c : Int)) (h4 : ¬ (20 : Int) < (s1 : Int)) (h5 : ¬ (20 : Int) < (s2 : Int)) (h6 : (s1 : Int) < (c : Int)) : Calls Try.prog 3 #[.int .u8 c, .int .u8 s1, .int .u8 s2, .slice a0 n cap] w fun e w' => e = .returned (.bool true) ∧ Below w.heap.size w w' := by
  go_enter Try.func3, Try.ntmps3
  go_wp2_with fail
  refine (bytes3_yes _ _ _ _ _ _ _ (by omega)).mono ?_
  rintro _ w0 ⟨rfl, hw0⟩
  rw [hw0]
  clear hw0
  go_wp2_with fail
  go_ret
  exact ⟨rfl, Below.refl _ _⟩
theorem shl4096 (n c p : Nat) (hp : p = n * 2 ^ c) (hn : n ≤ 4096) (hc : c ≤ 20) : wrap64 ((n : Int) * 2 ^ c) = (p : Int) ∧ IntKind.i64.wrap ((n : Int) * 2 ^ c) = (p : Int) := by
  have e : (n : Int) * 2 ^ c = (p : Int) := by rw [hp]; exact shl_int n c (2 ^ c) rfl
  have hb : p ≤ 4096 * 1048576 := by rw [hp]; exact Nat.mul_le_mul hn (pow_le c hc)
  rw [e]
  exact ⟨w64_nat p (by omega), k64_nat p (by omega)⟩
set_option maxRecDepth 100000 in
theorem early4 (c s1 s2 n cap p : Nat) (a0 : Option Addr) (w : World) (h2 : ¬ (4096 : Int) < (n : Int)) (h3 : ¬ (20 : Int) < (c : Int)) (h4 : ¬ (20 : Int) < (s1 : Int)) (h5 : ¬ (20 : Int) < (s2 : Int)) (h6 : ¬ (s1 : Int) < (c : Int)) (hp : Hid (p = n * 2 ^ c)) (h7 : (1048576 : Int) < (p : Int)) : Calls Try.prog 3 #[.int .u8 c, .int .u8 s1, .int .u8 s2, .slice a0 n cap] w fun e w' => e = .returned (.bool true) ∧ Below w.heap.size w w' := by
  have hm1 := (shl4096 n c p hp.out (by omega) (by omega)).1
  have hm2 := (shl4096 n c p hp.out (by omega) (by omega)).2
  have hk0 : (0 : Int) ≤ (c : Int) := by omega
  have hk1 : (c : Int) ≤ 64 := by omega
  go_enter Try.func3, Try.ntmps3
  go_wp2_with fail
  refine (bytes3_yes _ _ _ _ _ _ _ (by omega)).mono ?_
  rintro _ w0 ⟨rfl, hw0⟩
  rw [hw0]
  clear hw0
  go_wp2_with fail
  go_ret
  exact ⟨rfl, Below.refl _ _⟩

theorem walk (x0 x1 x2 : Int) (w0 : (Lit.int .u8 x0).wf = true) (w1 : (Lit.int .u8 x1).wf = true) (w2 : (Lit.int .u8 x2).wf = true) (a0 : Option Addr) (n cap : Nat) (w : World) (h : IsSteps w a0 n cap) :
    Calls Try.prog 3 #[.int .u8 x0, .int .u8 x1, .int .u8 x2, .slice a0 n cap] w fun e w' => e = .returned (.bool true) ∧ Below w.heap.size w w' := by
  have b0 := bounds_u8 w0
  have b1 := bounds_u8 w1
  have b2 := bounds_u8 w2
  obtain ⟨c, rfl⟩ := Int.eq_ofNat_of_zero_le b0.1
  obtain ⟨s1, rfl⟩ := Int.eq_ofNat_of_zero_le b1.1
  obtain ⟨s2, rfl⟩ := Int.eq_ofNat_of_zero_le b2.1
  clear b0 b1 b2 w0 w1 w2
  by_cases h5 : (1048576 : Int) < (n : Int)
  · exact early5 c s1 s2 n cap a0 w h5
  by_cases h1 : (4096 : Int) < (n : Int)
  · exact early1 c s1 s2 n cap a0 w h5 h1
  by_cases h2 : (decide ((20 : Int) < (c : Int)) || decide ((20 : Int) < (s1 : Int)) || decide ((20 : Int) < (s2 : Int))) = true
  · exact early2 c s1 s2 n cap a0 w h1 _ _ _ rfl rfl rfl h2
  simp only [Bool.or_eq_true, decide_eq_true_eq, not_or] at h2
  obtain ⟨⟨g1, g2⟩, g3⟩ := h2
  by_cases h3 : (s1 : Int) < (c : Int)
  · exact early3 c s1 s2 n cap a0 w h1 g1 g2 g3 h3
  by_cases h4 : n * 2 ^ c ≤ 1048576
  · obtain ⟨pu, ar, fi, har, hcl⟩ := clone_any h (by omega)
    exact script_rest w c s1 s2 n cap a0 pu ar fi (by omega) (by omega) (by omega) (by omega) (by omega) h4 har hcl
  · obtain ⟨p, hp⟩ : ∃ p, p = n * 2 ^ c := ⟨_, rfl⟩
    exact early4 c s1 s2 n cap p a0 w h1 g1 g2 g3 h3 hp (by rw [← hp] at h4; omega)

/-! ### THE ROW's STEP -/
set_option maxRecDepth 100000 in
theorem lifted (os : Os) (started : os.Started) (H : Type) (enc : TypeId × Value → H) :
    ReturnsInHanded {} Try.checked os 3 .any (Rows.fnWordBlocksScriptMatchesModelSpec.pre6 enc Try.prog Try.f3 Rows.fnWordBlocksScriptMatchesModelRow.domain false) (Rows.fnWordBlocksScriptMatchesModelSpec.post enc Try.prog Try.f3 false true false false) := by
  refine returnsInHanded_of_change (C := Try.checked) own started (by kernel_rfl) Try.func3
    (ChangeSpec.witness6 (enc := enc) (C := Try.checked) false ⟨#[], #[.int .u8 0, .int .u8 0, .int .u8 0, .slice none 0 0], []⟩ 8 (by kernel_rfl) (by kernel_rfl) (by kernel_rfl) (by kernel_rfl)) ?_
  intro W base args ds gs before hval0 hW hcnd _
  have hval : ∀ (j : Nat) t v, Try.f3.params[j]? = some t → args[j]? = some v → Value.okWide Try.prog W .any base t v := hval0
  have hW' := hW
  obtain ⟨p, q, hA0, hV, rfl, hfz, hnd⟩ := hW
  have hA : DataW.TrodAll enc Try.prog W 0 (fun _ => true) true Try.f3.params.toList args.toList ds p := hA0
  rw [Try.params3] at hA hval
  obtain ⟨v0, vs0, d0, ds0, p0, q0, hargs, rfl, rfl, h0, r0⟩ := trodAll_cons hA
  obtain ⟨v1, vs1, d1, ds1, p1, q1, rfl, rfl, rfl, h1, r1⟩ := trodAll_cons r0
  obtain ⟨v2, vs2, d2, ds2, p2, q2, rfl, rfl, rfl, h2, r2⟩ := trodAll_cons r1
  obtain ⟨v3, vs3, d3, ds3, p3, q3, rfl, rfl, rfl, h3, r3⟩ := trodAll_cons r2
  obtain ⟨rfl, rfl, rfl⟩ := trodAll_nil r3
  obtain rfl : args = #[v0, v1, v2, v3] := by cases args; simp_all
  obtain ⟨rfl, rfl⟩ := trodVars_none hV
  obtain ⟨x0, rfl, rfl, rfl, w0⟩ := open_int Try.underlying5 (hval 0 5 v0 rfl rfl) h0
  obtain ⟨x1, rfl, rfl, rfl, w1⟩ := open_int Try.underlying5 (hval 1 5 v1 rfl rfl) h1
  obtain ⟨x2, rfl, rfl, rfl, w2⟩ := open_int Try.underlying5 (hval 2 5 v2 rfl rfl) h2
  obtain ⟨a3, len3, cap3, rfl⟩ := okWide_slice Try.underlying22 (hval 3 22 v3 rfl rfl)
  have k3 := h3
  have lt3 : ∀ x ∈ p3, x.block < W.heap.size := by obtain ⟨m, hm⟩ := k3; exact DataW.trod_lt m _ _ _ hm
  have s3 : IsSteps W a3 len3 cap3 := by
    obtain ⟨fuel, hf⟩ := h3
    rcases open_steps hf with hcs | ⟨ad, len, cap, q, hcs, hl, hm, hq⟩
    · simp [Value.cells] at hcs
      obtain ⟨rfl, rfl, rfl⟩ := hcs
      exact Or.inl ⟨rfl, rfl, rfl⟩
    · simp [Value.cells] at hcs
      obtain ⟨rfl, rfl, rfl⟩ := hcs
      exact Or.inr ⟨ad, q, rfl, hl, hm, hq⟩
  clear hA0 hval0
  refine (walk x0 x1 x2 w0 w1 w2 a3 len3 cap3 W s3).mono fun e W' ⟨he, bel⟩ => ?_
  subst he
  exact ⟨_, rfl, _, _, _, [], _, [], hW', trodAll_mk1 (shut_bool Try.underlying4 _), (trodAll_cons_mk (shut_int Try.underlying5 w0) (trodAll_cons_mk (shut_int Try.underlying5 w1) (trodAll_cons_mk (shut_int Try.underlying5 w2) (trodAll_cons_mk (Below.trod laidOut (by kernel_rfl) (of_decide_eq_true (by kernel_rfl)) k3 bel lt3) trodAll_mk0)))), rfl, bel.frame _, fun h => by cases h⟩

theorem over : Rows.fnWordBlocksScriptMatchesModelRow.holds Try.pinned (OpenSpec.ofChange Rows.fnWordBlocksScriptMatchesModelSpec) :=
  OpenClaim.holds_of_wide 3 Try.f3 rfl rfl rfl rfl rfl rfl rfl ⟨rfl, rfl, rfl, rfl, rfl⟩ rfl rfl rfl rfl rfl (by kernel_rfl) Try.func3 (by kernel_rfl)
    (of_decide_eq_true (by kernel_rfl)) (by unfold Func.isWrapper; first | (rw [if_pos (by decide +kernel)]; kernel_rfl) | (rw [if_neg (by decide +kernel)]; exact ⟨rfl, rfl⟩))
    (fun os started H enc _ => lifted os started H enc)

/-- THE STATEMENT -/
theorem proved : Rows.FnWordBlocksScriptMatchesModelSaid := over
end Go.Proofs.Qxb6603907a.fnWordBlocksScriptMatchesModel
