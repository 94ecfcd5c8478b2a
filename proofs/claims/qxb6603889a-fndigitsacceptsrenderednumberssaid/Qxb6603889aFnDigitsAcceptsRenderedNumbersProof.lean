/-
  THE SHELL OF A PROOF OF 'Rows.FnDigitsAcceptsRenderedNumbersSaid' ('example.com/vestwright/vestwright/zzlaws_pkg_yamlfile_b1.FnDigitsAcceptsRenderedNumbers'), WRITTEN BY PROGRAM (proof-skeleton.mjs) off the guide's own print for that function.
  The walk is ours, and 'Below' stands in the place of 'Grown'; all else is the guide's template at this function's number and types.
-/
import Derived.Test.Qxb6603889aRows
import Derived.Test.Qxb6603889aUtoa
import Derived.Below
import Derived.WalkKit
import Derived.ProofKit
import Derived.OpenShut
import Derived.ShutString
namespace Go.Proofs.Qxb6603889a.fnDigitsAcceptsRenderedNumbers
open Go.ChangeShapes Go.WideShapes Go.ChangeAt Go.RowKit
open Go.ChangeMaps (open_string shut_string)
set_option linter.unusedVariables false      -- a walk need not use every 'w<i>' (that an integer argument fits its kind)

theorem own : ownKnob Try.prog.godebug = none := by kernel_rfl

/-! ### STEP 1: THE WALK -/
theorem good_cons {c : UInt8} {l : List UInt8} (h : isd c = false) : good (c :: l) = false := by simp [good, h]
theorem good_tail {a b : UInt8} {l : List UInt8} (h : isd a = false) : good (l ++ [a, b]) = false := by simp [good, h]

theorem app_data (a b : ByteArray) : (a ++ b).data.toList = a.data.toList ++ b.data.toList := by rw [ByteArray.data_append, Array.toList_append]
theorem app_size (a b : ByteArray) : (a ++ b).size = a.size + b.size := ByteArray.size_append
/-- refused: a text that is no string of digits -/
theorem not_any (t : ByteArray) (w : World) (hs : t.size ≤ maxLen) (h : good t.data.toList = false) : Calls Try.prog 7 #[.string t] w fun e w' => e = .returned (.bool false) ∧ Below w.heap.size w w' :=
  (zzdigits_any t w hs).mono fun _ _ hh => ⟨by rw [hh.1, h], hh.2⟩
theorem not_head (c : UInt8) (s : ByteArray) (w : World) (hs : s.size ≤ 20) (h : isd c = false) : Calls Try.prog 7 #[.string ((⟨#[c]⟩ : ByteArray) ++ s)] w fun e w' => e = .returned (.bool false) ∧ Below w.heap.size w w' :=
  not_any _ w (by rw [app_size]; have : (⟨#[c]⟩ : ByteArray).size = 1 := rfl; unfold maxLen; omega) (by rw [app_data]; exact good_cons h)
theorem not_tail (s : ByteArray) (w : World) (hs : s.size ≤ 20) : Calls Try.prog 7 #[.string (s ++ (⟨#[46, 48]⟩ : ByteArray))] w fun e w' => e = .returned (.bool false) ∧ Below w.heap.size w w' :=
  not_any _ w (by rw [app_size]; have : (⟨#[46, 48]⟩ : ByteArray).size = 2 := rfl; unfold maxLen; omega) (by rw [app_data]; exact good_tail (by decide))

theorem walkN (n : Nat) (hn : n < 18446744073709551616) (w : World) :
    Calls Try.prog 3 #[.int .u64 n] w fun e w' => e = .returned (.bool true) ∧ Below w.heap.size w w' := by
  go_enter Try.func3, Try.ntmps3
  go_wp2_with fail
  refine (utoa_any n _ hn).mono ?_
  rintro e w1 ⟨s, rfl, hs, hg, hb1⟩
  have Hg : Hid _ := hg
  clear hg
  go_wp2_with fail
  refine (zzdigits_any s _ (by unfold maxLen; omega)).mono ?_
  rintro e w2 ⟨rfl, hb2⟩
  rw [Hg.out]
  go_wp2_with fail
  refine (not_head 45 s _ hs (by decide)).mono ?_
  rintro e w3 ⟨rfl, hb3⟩
  go_wp2_with fail
  refine (not_head 43 s _ hs (by decide)).mono ?_
  rintro e w4 ⟨rfl, hb4⟩
  go_wp2_with fail
  refine (not_tail s _ hs).mono ?_
  rintro e w5 ⟨rfl, hb5⟩
  go_wp2_with fail
  refine (not_head 32 s _ hs (by decide)).mono ?_
  rintro e w6 ⟨rfl, hb6⟩
  go_wp2_with fail
  go_ret
  have s1 := hb1.size
  have s2 := hb2.size
  have s3 := hb3.size
  have s4 := hb4.size
  have s5 := hb5.size
  exact ⟨rfl, ((((hb1.trans (hb2.mono s1)).trans (hb3.mono (Nat.le_trans s1 s2))).trans (hb4.mono (Nat.le_trans (Nat.le_trans s1 s2) s3))).trans (hb5.mono (Nat.le_trans (Nat.le_trans (Nat.le_trans s1 s2) s3) s4))).trans (hb6.mono (Nat.le_trans (Nat.le_trans (Nat.le_trans (Nat.le_trans s1 s2) s3) s4) s5))⟩

theorem walk (a0 : Int) (w0 : (Lit.int .u64 a0).wf = true) (w : World) :
    Calls Try.prog 3 #[.int .u64 a0] w fun e w' => e = .returned (.bool true) ∧ Below w.heap.size w w' := by
  have h := bounds_u64 w0
  obtain ⟨n, rfl⟩ := Int.eq_ofNat_of_zero_le h.1
  exact walkN n (by omega) w

/-! ### THE ROW's STEP: WRITTEN OUT: LEAVE IT -/
set_option maxRecDepth 100000 in
theorem lifted (os : Os) (started : os.Started) (H : Type) (enc : TypeId × Value → H) :
    ReturnsInHanded {} Try.checked os 3 .any (Rows.fnDigitsAcceptsRenderedNumbersSpec.pre6 enc Try.prog Try.f3 Rows.fnDigitsAcceptsRenderedNumbersRow.domain false) (Rows.fnDigitsAcceptsRenderedNumbersSpec.post enc Try.prog Try.f3 false true false false) := by
  refine returnsInHanded_of_change (C := Try.checked) own started (by kernel_rfl) Try.func3
    (ChangeSpec.witness6 (enc := enc) (C := Try.checked) false ⟨#[], #[.int .u64 0], []⟩ 8 (by kernel_rfl) (by kernel_rfl) (by kernel_rfl) (by kernel_rfl)) ?_
  intro W base args ds gs before hval0 hW hcnd _
  have hval : ∀ (j : Nat) t v, Try.f3.params[j]? = some t → args[j]? = some v → Value.okWide Try.prog W .any base t v := hval0
  have hW' := hW
  obtain ⟨p, q, hA0, hV, rfl, hfz, hnd⟩ := hW
  have hA : DataW.TrodAll enc Try.prog W 0 (fun _ => true) true Try.f3.params.toList args.toList ds p := hA0
  rw [Try.params3] at hA hval
  obtain ⟨v0, vs0, d0, ds0, p0, q0, hargs, rfl, rfl, h0, r0⟩ := trodAll_cons hA
  obtain ⟨rfl, rfl, rfl⟩ := trodAll_nil r0
  obtain rfl : args = #[v0] := by cases args; simp_all
  obtain ⟨rfl, rfl⟩ := trodVars_none hV
  obtain ⟨a0, rfl, rfl, rfl, w0⟩ := open_int Try.underlying22 (hval 0 22 v0 rfl rfl) h0
  clear hA0 hval0
  simp only [List.append_nil] at hW'
  refine (walk a0 w0 W).mono fun e W' ⟨he, bel⟩ => ?_
  subst he
  exact ⟨_, rfl, _, _, _, [], _, [], hW', trodAll_mk1 (shut_bool Try.underlying4 _), (trodAll_cons_mk (shut_int Try.underlying22 w0) trodAll_mk0), rfl, bel.frame _, fun h => by cases h⟩

theorem over : Rows.fnDigitsAcceptsRenderedNumbersRow.holds Try.pinned (OpenSpec.ofChange Rows.fnDigitsAcceptsRenderedNumbersSpec) :=
  OpenClaim.holds_of_wide 3 Try.f3 rfl rfl rfl rfl rfl rfl rfl ⟨rfl, rfl, rfl, rfl, rfl⟩ rfl rfl rfl rfl rfl (by kernel_rfl) Try.func3 (by kernel_rfl)
    (of_decide_eq_true (by kernel_rfl)) (by unfold Func.isWrapper; first | (rw [if_pos (by decide +kernel)]; kernel_rfl) | (rw [if_neg (by decide +kernel)]; exact ⟨rfl, rfl⟩))
    (fun os started H enc _ => lifted os started H enc)

/-- ████ THE STATEMENT ████ -/
theorem proved : Rows.FnDigitsAcceptsRenderedNumbersSaid :=
  over
end Go.Proofs.Qxb6603889a.fnDigitsAcceptsRenderedNumbers
