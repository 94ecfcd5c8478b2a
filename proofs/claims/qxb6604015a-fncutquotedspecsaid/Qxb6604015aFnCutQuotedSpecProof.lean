/-
  THE SHELL OF A PROOF OF 'Rows.FnCutQuotedSpecSaid' ('example.com/crossway/crossway/zzlaws_ri_b1.FnCutQuotedSpec'), WRITTEN BY PROGRAM (proof-skeleton.mjs) off the guide's own print for that function.
  The walk is ours, and 'Below' stands in the place of 'Grown'; all else is the guide's template at this function's number and types.
-/
import Derived.Test.Qxb6604015aRows
import Derived.Test.Qxb6604015aModelWalk
import Derived.Below
import Derived.WalkKit
import Derived.ProofKit
import Derived.OpenShut
import Derived.ShutString
namespace Go.Proofs.Qxb6604015a.fnCutQuotedSpec
open Go.ChangeShapes Go.WideShapes Go.ChangeAt Go.RowKit
open Go.ChangeMaps (open_string shut_string)
set_option linter.unusedVariables false      -- a walk need not use every 'w<i>' (that an integer argument fits its kind)

theorem own : ownKnob Try.prog.godebug = none := by kernel_rfl

/-! ### STEP 1: THE WALK -/
theorem bytes5_yes (a : ByteArray) (w : World) (h : (a.size : Int) ≤ 1048576) : Calls Try.prog 5 #[.string a] w fun e w' => e = .returned (.bool true) ∧ w' = w := by
  have h1 : ¬ (1048576 : Int) < (a.size : Int) := by omega
  go_enter Try.func5, Try.ntmps5
  go_wp2
  go_ret
  exact ⟨rfl, rfl⟩
theorem bytes5_no (a : ByteArray) (w : World) (h : ¬ (a.size : Int) ≤ 1048576) : Calls Try.prog 5 #[.string a] w fun e w' => e = .returned (.bool false) ∧ w' = w := by
  have h1 : (1048576 : Int) < (a.size : Int) := by omega
  go_enter Try.func5, Try.ntmps5
  go_wp2
  go_ret
  exact ⟨rfl, rfl⟩


theorem model_yes (s t tail : ByteArray) (w : World) (hs : s.size ≤ 1048576) (h : Hid (Quote.cq false (s.data.toList.drop 1) = some (t.data.toList, tail.data.toList))) :
    Calls Try.prog 7 #[.string s] w fun e w' => e = .returned (.tuple #[.string t, .string tail, .bool true]) ∧ Below w.heap.size w w' := by
  refine (model_any s w hs _ h).mono ?_
  rintro e w1 ⟨he, hb⟩
  refine ⟨?_, hb⟩
  rw [he]
  show Ending.returned (.tuple #[.string ⟨t.data.toList.toArray⟩, .string ⟨tail.data.toList.toArray⟩, .bool true]) = _
  rw [ba_of, ba_of]
theorem model_no (s : ByteArray) (w : World) (hs : s.size ≤ 1048576) (h : Hid (Quote.cq false (s.data.toList.drop 1) = none)) :
    Calls Try.prog 7 #[.string s] w fun e w' => e = .returned (.tuple #[.string ⟨#[]⟩, .string ⟨#[]⟩, .bool false]) ∧ Below w.heap.size w w' :=
  model_any s w hs none h

set_option maxRecDepth 100000 in
theorem walk (a0 : ByteArray) (w0 : a0.size ≤ maxLen) (w : World) :
    Calls Try.prog 3 #[.string a0] w fun e w' => e = .returned (.bool true) ∧ Below w.heap.size w w' := by
  by_cases hsz : (a0.size : Int) ≤ 1048576
  · have h1 : ¬ (1048576 : Int) < (a0.size : Int) := by omega
    have h2 : a0.size ≤ 8388608 := by omega
    have h3 : a0.size ≤ 1048576 := by omega
    obtain ⟨o, ho⟩ : ∃ o, Quote.cq false (a0.data.toList.drop 1) = o := ⟨_, rfl⟩
    cases o with
    | none =>
      have HO : Hid (Quote.cq false (a0.data.toList.drop 1) = none) := ho
      clear ho
      go_enter Try.func3, Try.ntmps3
      go_wp2_with fail
      refine (bytes5_yes _ _ hsz).mono ?_
      rintro e w1 ⟨rfl, hw1⟩
      rw [hw1]
      clear hw1
      go_wp2_with fail
      refine (zz_cut_no a0 _ h2 HO).mono ?_
      rintro e w2 ⟨rfl, hb2⟩
      go_wp2_with fail
      refine (model_no a0 _ h3 HO).mono ?_
      rintro e w3 ⟨rfl, hb3⟩
      have HB : Hid (Below w.heap.size w w3) := hb2.trans (hb3.mono hb2.size)
      clear hb2 hb3
      go_wp2_with fail
      go_ret
      exact ⟨rfl, HB.out⟩
    | some p =>
      obtain ⟨t, ht⟩ : ∃ t : ByteArray, t.data.toList = p.1 := ⟨⟨p.1.toArray⟩, rfl⟩
      obtain ⟨tail, htail⟩ : ∃ t : ByteArray, t.data.toList = p.2 := ⟨⟨p.2.toArray⟩, rfl⟩
      have HO : Hid (Quote.cq false (a0.data.toList.drop 1) = some (t.data.toList, tail.data.toList)) := by
        show _ = _
        rw [ho, ht, htail]
      clear ho ht htail
      go_enter Try.func3, Try.ntmps3
      go_wp2_with fail
      refine (bytes5_yes _ _ hsz).mono ?_
      rintro e w1 ⟨rfl, hw1⟩
      rw [hw1]
      clear hw1
      go_wp2_with fail
      refine (zz_cut_yes a0 t tail _ h2 HO).mono ?_
      rintro e w2 ⟨rfl, hb2⟩
      go_wp2_with fail
      refine (model_yes a0 t tail _ h3 HO).mono ?_
      rintro e w3 ⟨rfl, hb3⟩
      have HB : Hid (Below w.heap.size w w3) := hb2.trans (hb3.mono hb2.size)
      clear hb2 hb3
      go_wp2_with fail
      go_ret
      exact ⟨rfl, HB.out⟩
  · go_enter Try.func3, Try.ntmps3
    go_wp2_with fail
    refine (bytes5_no _ _ (by omega)).mono ?_
    rintro e w1 ⟨rfl, hw1⟩
    rw [hw1]
    clear hw1
    go_wp2_with fail
    go_ret
    exact ⟨rfl, Below.refl _ _⟩

/-! ### THE ROW's STEP: WRITTEN OUT: LEAVE IT -/
set_option maxRecDepth 100000 in
theorem lifted (os : Os) (started : os.Started) (H : Type) (enc : TypeId × Value → H) :
    ReturnsInHanded {} Try.checked os 3 .any (Rows.fnCutQuotedSpecSpec.pre6 enc Try.prog Try.f3 Rows.fnCutQuotedSpecRow.domain false) (Rows.fnCutQuotedSpecSpec.post enc Try.prog Try.f3 false true false false) := by
  refine returnsInHanded_of_change (C := Try.checked) own started (by kernel_rfl) Try.func3
    (ChangeSpec.witness6 (enc := enc) (C := Try.checked) false ⟨#[], #[.string ByteArray.empty], []⟩ 8 (by kernel_rfl) (by kernel_rfl) (by kernel_rfl) (by kernel_rfl)) ?_
  intro W base args ds gs before hval0 hW hcnd _
  have hval : ∀ (j : Nat) t v, Try.f3.params[j]? = some t → args[j]? = some v → Value.okWide Try.prog W .any base t v := hval0
  have hW' := hW
  obtain ⟨p, q, hA0, hV, rfl, hfz, hnd⟩ := hW
  have hA : DataW.TrodAll enc Try.prog W 0 (fun _ => true) true Try.f3.params.toList args.toList ds p := hA0
  rw [Try.params3] at hA hval
  obtain ⟨v0, vs0, d0, ds0, p0, q0, hargs, rfl, rfl, h0, r0⟩ := trodAll_cons hA
  obtain ⟨rfl, rfl, rfl⟩ := trodAll_nil r0
  obtain rfl : args = #[v0] := by cases args; simp_all
  obtain ⟨rfl, rfl⟩ := trodVars_none hV
  obtain ⟨a0, rfl, rfl, rfl, w0⟩ := open_string Try.underlying9 (hval 0 9 v0 rfl rfl) h0
  clear hA0 hval0
  simp only [List.append_nil] at hW'
  refine (walk a0 w0 W).mono fun e W' ⟨he, bel⟩ => ?_
  subst he
  exact ⟨_, rfl, _, _, _, [], _, [], hW', trodAll_mk1 (shut_bool Try.underlying4 _), (trodAll_cons_mk (shut_string Try.underlying9 w0) trodAll_mk0), rfl, bel.frame _, fun h => by cases h⟩

theorem over : Rows.fnCutQuotedSpecRow.holds Try.pinned (OpenSpec.ofChange Rows.fnCutQuotedSpecSpec) :=
  OpenClaim.holds_of_wide 3 Try.f3 rfl rfl rfl rfl rfl rfl rfl ⟨rfl, rfl, rfl, rfl, rfl⟩ rfl rfl rfl rfl rfl (by kernel_rfl) Try.func3 (by kernel_rfl)
    (of_decide_eq_true (by kernel_rfl)) (by unfold Func.isWrapper; first | (rw [if_pos (by decide +kernel)]; kernel_rfl) | (rw [if_neg (by decide +kernel)]; exact ⟨rfl, rfl⟩))
    (fun os started H enc _ => lifted os started H enc)

/-- ████ THE STATEMENT ████ -/
theorem proved : Rows.FnCutQuotedSpecSaid :=
  over
end Go.Proofs.Qxb6604015a.fnCutQuotedSpec
