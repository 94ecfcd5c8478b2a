/-
  THE SHELL OF A PROOF OF 'Rows.FnLeadingColonsFollowNearestLineRuleSaid' ('example.com/layerd/layerd/zzlaws_pkg_yamlnode_b1.FnLeadingColonsFollowNearestLineRule'), WRITTEN BY PROGRAM (proof-skeleton.mjs, third state) off the guide's own print for that function.
  The walk is ours; all else is the guide's own way at this function's number and types.
-/
import Derived.Test.Qxb6601028aRows
import Derived.Test.Qxb6601028aColonsJoin
import Derived.WalkKit
import Derived.ProofKit
import Derived.OpenShut
import Derived.ShutString
import Derived.ChangeOld
import Derived.Below
namespace Go.Proofs.Qxb6601028a.fnLeadingColonsFollowNearestLineRule
open Go.ChangeShapes Go.WideShapes Go.ChangeAt Go.RowKit
open Go.ChangeMaps (open_string shut_string)
set_option linter.unusedVariables false

theorem own : ownKnob Try.prog.godebug = none := by kernel_rfl
theorem laidOut : laidOutB Try.prog = true := by kernel_rfl

/-- WHAT THE WALK IS TOLD OF A SLICE OF INTEGERS THAT CAME IN: it is nil; or it leads to a row of 'cap' cells, the numbers 'zs' (the first 'len' are its elements, the rest its spare room), each fitting its kind. -/
def IsRow (k : IntKind) (w : World) (a : Option Addr) (len cap : Nat) (zs : List Int) : Prop :=
  (a = none ∧ len = 0 ∧ cap = 0 ∧ zs = []) ∨
  ∃ x, a = some x ∧ len ≤ cap ∧ cap ≤ maxLen ∧ zs.length = cap ∧ (∀ i, i < zs.length → w.cell? (x.add i) = some (.int k (zs.getD i 0))) ∧ ∀ n ∈ zs, (Lit.int k n).wf = true

/-! ### STEP 1: THE WALK -/
theorem bytes_yes (a : Option Addr) (n c : Nat) (w : World) (h : ¬ (1048576 : Int) < (n : Int)) : Calls Try.prog 14 #[.slice a n c] w fun e w' => e = .returned (.bool true) ∧ w' = w := by
  go_enter Try.func14, Try.ntmps14
  go_wp2
  go_ret
  exact ⟨rfl, rfl⟩
theorem bytes_no (a : Option Addr) (n c : Nat) (w : World) (h : (1048576 : Int) < (n : Int)) : Calls Try.prog 14 #[.slice a n c] w fun e w' => e = .returned (.bool false) ∧ w' = w := by
  go_enter Try.func14, Try.ntmps14
  go_wp2
  go_ret
  exact ⟨rfl, rfl⟩

theorem walk_nil (w : World) : Calls Try.prog 5 #[.slice none 0 0] w fun e w' => e = .returned (.bool true) ∧ Below w.heap.size w w' := by
  go_enter Try.func5, Try.ntmps5
  go_wp2_with fail
  refine (bytes_yes _ _ _ _ (by omega)).mono ?_
  rintro e w1 ⟨rfl, rfl⟩
  go_wp2_with fail
  refine (Units.clone_nil _).mono ?_
  rintro e w2 ⟨rfl, rfl⟩
  go_wp2_with fail
  refine (Units.lead_nil _).mono ?_
  rintro e w3 ⟨rfl, hb3⟩
  go_wp2_with fail
  refine (Units.model_nil _).mono ?_
  rintro e w4 ⟨rfl, hb4⟩
  go_wp2_with fail
  refine (Units.equal_ints none none 0 0 0 (fun _ => 0) _ (by omega) (by omega)).mono ?_
  rintro e w5 ⟨rfl, hb5⟩
  go_wp2_with fail
  go_ret
  exact ⟨rfl, (hb3.trans (hb4.mono hb3.size)).trans (hb5.mono (Nat.le_trans hb3.size hb4.size))⟩

theorem goM_len (C : Nat → Int) (n f : Nat) : ∀ (j : Nat) (P : List (Nat × List (Nat × Bool))) (out : List Nat), (Colons.goM C n f j P out).length ≤ out.length + f := by
  induction f with
  | zero => intro j P out; exact Nat.le_refl _
  | succ f ih =>
    intro j P out
    unfold Colons.goM
    split
    · split
      · refine Nat.le_trans (ih _ _ _) ?_
        split
        · simp; omega
        · omega
      · exact Nat.le_trans (ih _ _ _) (by omega)
    · omega

theorem owned_keep {w w' : World} {base : Nat} {r : RowsKit.Row} (h : r.owned w base) (hb : Below w.heap.size w w') : r.owned w' base :=
  World.ownsRow.kept h (RowsKit.grown_of_below hb none) (by cases hk : (Value.slice r.ao r.n r.cap).ownBlock with | none => exact Or.inl rfl | some k => exact Or.inr (by simp))

theorem offs_code {w : World} {base st wd m c g : Nat} {R : List Nat} (h : RowsKit.Row.owned w base (Units.rowO st wd (some ⟨g, 0, none⟩) m c R)) (hl : R.length = m) : Units.Codes w g m (fun k => ((st + wd * R.getD k 0 : Nat) : Int)) := by
  intro k hk
  rw [RowsKit.owned_cell h k (by omega)]
  simp [Units.offs, List.getD, show k < R.length by omega]

/-- behind the clone: the two readers' answers are the same -/
theorem tail_any (n : Nat) (B : Nat → Int) (g : Nat) (w : World) (hn : n ≤ 65536) (hB : Units.Src w g n B) (hg : g < w.heap.size) (hb : ∀ k, 0 ≤ B k ∧ B k ≤ 255) :
    ∃ R : List Nat, R.length ≤ 65536 ∧ (Calls Try.prog 17 #[.slice (some ⟨g, 0, none⟩) n n] w fun e w' => ∃ ao m c, e = .returned (.slice ao m c) ∧ RowsKit.Row.owned w' w.heap.size (Units.rowO (Units.stOf n B) (Units.wdOf n B) ao m c R) ∧ R.length = m ∧ Below w.heap.size w w') ∧
      ∀ w2 : World, Below w.heap.size w w2 → Calls Try.prog 18 #[.slice (some ⟨g, 0, none⟩) n n] w2 fun e w' => ∃ ao m c, e = .returned (.slice ao m c) ∧ RowsKit.Row.owned w' w2.heap.size (Units.rowO (Units.stOf n B) (Units.wdOf n B) ao m c R) ∧ R.length = m ∧ Below w2.heap.size w2 w' := by
  have hal := Units.alike_of n B hb _ rfl
  have hend : Units.asc n (Units.wdOf n B) (Units.hiOf n B) B (Units.stOf n B + Units.wdOf n B * ((n - Units.stOf n B) / Units.wdOf n B)) = 0 := (Units.text_of n B hn).zero (Nat.le_refl _)
  have hag := Colons.agree0 hal (Units.ceil_of n B) (by rw [hend]; exact ⟨rfl, rfl, rfl⟩) ((n - Units.stOf n B + Units.wdOf n B - 1) / Units.wdOf n B) ((n - Units.stOf n B) / Units.wdOf n B) (Nat.le_refl _) (Nat.le_refl _)
  refine ⟨_, ?_, Units.lead_any g n B w hn hB hg hb _ hag, ?_⟩
  · have h1 := goM_len (fun t => if t < (n - Units.stOf n B) / Units.wdOf n B then Units.codeAt n B t else -1) ((n - Units.stOf n B) / Units.wdOf n B) ((n - Units.stOf n B) / Units.wdOf n B) 0 [] []
    have h2 : (n - Units.stOf n B) / Units.wdOf n B ≤ n := Nat.le_trans (Nat.div_le_self _ _) (Nat.sub_le _ _)
    simp only [List.length_nil] at h1
    omega
  intro w2 hw2
  exact Units.model_aux g n B w2 hn (Units.src_below hB hw2 hg) (Nat.lt_of_lt_of_le hg hw2.size) hb _ _ _ _ _ rfl rfl rfl rfl (fun _ => rfl) _ rfl

set_option maxHeartbeats 1000000 in
theorem walk_rest (a0 : Option Addr) (n c : Nat) (B : Nat → Int) (w : World) (hn : n ≤ 65536) (hb : ∀ k, 0 ≤ B k ∧ B k ≤ 255)
    (hcl : Calls Try.prog 15 #[.slice a0 n c] w fun e w' => e = .returned (.slice (some ⟨w.heap.size, 0, none⟩) n n) ∧ Units.Src w' w.heap.size n B ∧ w.heap.size < w'.heap.size ∧ Below w.heap.size w w') :
    Calls Try.prog 5 #[.slice a0 n c] w fun e w' => e = .returned (.bool true) ∧ Below w.heap.size w w' := by
  have Hcl : Hid _ := hcl
  have Hb : Hid _ := hb
  clear hcl hb
  go_enter Try.func5, Try.ntmps5
  go_wp2_with fail
  refine (bytes_yes _ _ _ _ (by omega)).mono ?_
  rintro e w1 ⟨rfl, hw1⟩
  subst hw1
  go_wp2_with fail
  refine Calls.mono Hcl.out ?_
  rintro e w2 ⟨rfl, hsrc, hsz, hb2⟩
  obtain ⟨R, hR, h17, h18⟩ := tail_any n B _ w2 hn hsrc hsz Hb.out
  have H17 : Hid _ := h17
  have H18 : Hid _ := h18
  clear h17 h18
  go_wp2_with fail
  refine Calls.mono H17.out ?_
  rintro e w3 ⟨ao, m, c1, rfl, hown3, hlen3, hb3⟩
  go_wp2_with fail
  refine Calls.mono (H18.out w3 hb3) ?_
  rintro e w4 ⟨ao', m', c2, rfl, hown4, hlen4, hb4⟩
  have hmm : m' = m := by omega
  subst hmm
  have hm : m' ≤ 4294967296 := by omega
  have hown3' : RowsKit.Row.owned w4 w2.heap.size (Units.rowO (Units.stOf n B) (Units.wdOf n B) ao m' c1 R) := owned_keep hown3 hb4
  have hcodes : 0 < m' → ∃ g1 g2, ao = some ⟨g1, 0, none⟩ ∧ ao' = some ⟨g2, 0, none⟩ ∧ Units.Codes w4 g1 m' (fun k => ((Units.stOf n B + Units.wdOf n B * R.getD k 0 : Nat) : Int)) ∧ Units.Codes w4 g2 m' (fun k => ((Units.stOf n B + Units.wdOf n B * R.getD k 0 : Nat) : Int)) := by
    intro hm0
    obtain ⟨g1, rfl⟩ := Units.addr_of hown3' hm0
    obtain ⟨g2, rfl⟩ := Units.addr_of hown4 hm0
    exact ⟨g1, g2, rfl, rfl, offs_code hown3' hlen3, offs_code hown4 hlen4⟩
  have Hco : Hid _ := hcodes
  clear hcodes hown3' hown4 hown3
  go_wp2_with fail
  refine (Units.equal_ints ao ao' m' c1 c2 _ _ hm Hco.out).mono ?_
  rintro e w5 ⟨rfl, hb5⟩
  go_wp2_with fail
  go_ret
  exact ⟨rfl, ((hb2.trans (hb3.mono (by omega))).trans (hb4.mono (by have := hb3.size; omega))).trans (hb5.mono (by have := hb3.size; have := hb4.size; omega))⟩

theorem walk (a0 : Option Addr) (len0 cap0 : Nat) (z0 : List Int) (w : World) (w0 : IsRow .u8 w a0 len0 cap0 z0) :
    Calls Try.prog 5 #[.slice a0 len0 cap0] w fun e w' => e = .returned (.bool true) ∧ Below w.heap.size w w' := by
  rcases w0 with ⟨rfl, rfl, rfl, _⟩ | ⟨x, rfl, hlc, hcm, hzl, hcell, hwf⟩
  · exact walk_nil w
  · have hcm' := hcm
    unfold maxLen at hcm'
    by_cases h1 : (1048576 : Int) < (len0 : Int)
    · clear hcell hwf
      go_enter Try.func5, Try.ntmps5
      go_wp2_with fail
      refine (bytes_no _ _ _ _ h1).mono ?_
      rintro e w1 ⟨rfl, rfl⟩
      go_wp2_with fail
      go_ret
      exact ⟨rfl, Below.refl _ _⟩
    · by_cases h2 : (65536 : Int) < (len0 : Int)
      · clear hcell hwf
        go_enter Try.func5, Try.ntmps5
        go_wp2_with fail
        refine (bytes_yes _ _ _ _ (by omega)).mono ?_
        rintro e w1 ⟨rfl, rfl⟩
        go_wp2_with fail
        go_ret
        exact ⟨rfl, Below.refl _ _⟩
      · by_cases h0 : len0 = 0
        · subst h0
          exact walk_rest (some x) 0 cap0 (fun _ => 0) w (by omega) (fun _ => ⟨Int.le_refl _, by decide⟩) (Units.clone_empty x cap0 _ w)
        · obtain ⟨b, off, rfl, hc⟩ := ints_at hcell (by omega)
          refine walk_rest _ len0 cap0 (fun k => z0.getD k 0) w (by omega) ?_ (Units.clone_some b off len0 cap0 _ w (by omega) (by omega) (fun i hi => hc i (by omega)))
          intro k
          have := range_u8 hwf k
          simpa [List.getD] using this

/-! ### THE ROW's STEP: WRITTEN OUT: LEAVE IT -/
set_option maxRecDepth 100000 in
theorem lifted (os : Os) (started : os.Started) (H : Type) (enc : TypeId × Value → H) :
    ReturnsInHanded {} Try.checked os 5 .any (Rows.fnLeadingColonsFollowNearestLineRuleSpec.pre6 enc Try.prog Try.f5 Rows.fnLeadingColonsFollowNearestLineRuleRow.domain false) (Rows.fnLeadingColonsFollowNearestLineRuleSpec.post enc Try.prog Try.f5 false true false false) := by
  refine returnsInHanded_of_change (C := Try.checked) own started (by kernel_rfl) Try.func5
    (ChangeSpec.witness6 (enc := enc) (C := Try.checked) false ⟨#[], #[.slice none 0 0], []⟩ 8 (by kernel_rfl) (by kernel_rfl) (by kernel_rfl) (by kernel_rfl)) ?_
  intro W base args ds gs before hval0 hW hcnd _
  have hval : ∀ (j : Nat) t v, Try.f5.params[j]? = some t → args[j]? = some v → Value.okWide Try.prog W .any base t v := hval0
  have hW' := hW
  obtain ⟨p, q, hA0, hV, rfl, hfz, hnd⟩ := hW
  have hA : DataW.TrodAll enc Try.prog W 0 (fun _ => true) true Try.f5.params.toList args.toList ds p := hA0
  rw [Try.params5] at hA hval
  obtain ⟨v0, vs0, d0, ds0, p0, q0, hargs, rfl, rfl, h0, r0⟩ := trodAll_cons hA
  obtain ⟨rfl, rfl, rfl⟩ := trodAll_nil r0
  obtain rfl : args = #[v0] := by cases args; simp_all
  obtain ⟨rfl, rfl⟩ := trodVars_none hV
  obtain ⟨a0, len0, cap0, rfl⟩ := okWide_slice Try.underlying23 (hval 0 23 v0 rfl rfl)
  have k0 := h0
  have lt0 : ∀ x ∈ p0, x.block < W.heap.size := by obtain ⟨m, hm⟩ := k0; exact DataW.trod_lt m _ _ _ hm
  obtain ⟨z0, w0⟩ : ∃ zs, IsRow .u8 W a0 len0 cap0 zs := by
    obtain ⟨fuel, hf⟩ := h0
    rcases open_ints Try.underlying23 Try.underlying5 (by kernel_rfl) hf with ⟨hcs, _⟩ | ⟨x, l, c, zs, hcs, _, hl, hm, hz, _, hcell, hwz⟩
    · simp [Value.cells] at hcs
      obtain ⟨rfl, rfl, rfl⟩ := hcs
      exact ⟨[], .inl ⟨rfl, rfl, rfl, rfl⟩⟩
    · simp [Value.cells] at hcs
      obtain ⟨rfl, rfl, rfl⟩ := hcs
      exact ⟨zs, .inr ⟨_, rfl, hl, hm, by simpa using hz, hcell, hwz⟩⟩
  clear hA0 hval0
  refine (walk a0 len0 cap0 z0 W w0).mono fun e W' ⟨he, bel⟩ => ?_
  subst he
  exact ⟨_, rfl, _, _, _, [], _, [], hW', trodAll_mk1 (shut_bool Try.underlying4 _), (trodAll_cons_mk (Below.trod laidOut (by kernel_rfl) (of_decide_eq_true (by kernel_rfl)) k0 bel lt0) trodAll_mk0), rfl, bel.frame _, fun h => by cases h⟩

theorem over : Rows.fnLeadingColonsFollowNearestLineRuleRow.holds Try.pinned (OpenSpec.ofChange Rows.fnLeadingColonsFollowNearestLineRuleSpec) :=
  OpenClaim.holds_of_wide 5 Try.f5 rfl rfl rfl rfl rfl rfl rfl ⟨rfl, rfl, rfl, rfl, rfl⟩ rfl rfl rfl rfl rfl (by kernel_rfl) Try.func5 (by kernel_rfl)
    (of_decide_eq_true (by kernel_rfl)) (by unfold Func.isWrapper; first | (rw [if_pos (by decide +kernel)]; kernel_rfl) | (rw [if_neg (by decide +kernel)]; exact ⟨rfl, rfl⟩))
    (fun os started H enc _ => lifted os started H enc)

/-- ████ THE STATEMENT ████ -/
theorem proved : Rows.FnLeadingColonsFollowNearestLineRuleSaid := over
end Go.Proofs.Qxb6601028a.fnLeadingColonsFollowNearestLineRule
