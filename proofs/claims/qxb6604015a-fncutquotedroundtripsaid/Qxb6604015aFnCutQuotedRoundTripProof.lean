/-
  THE SHELL OF A PROOF OF 'Rows.FnCutQuotedRoundTripSaid' ('example.com/crossway/crossway/zzlaws_ri_b1.FnCutQuotedRoundTrip'), WRITTEN BY PROGRAM (proof-skeleton.mjs) off the guide's own print for that function.
  The walk is ours, and 'Below' stands in the place of 'Grown'; all else is the guide's template at this function's number and types.
-/
import Derived.Test.Qxb6604015aRows
import Derived.Test.Qxb6604015aRoundWalk
import Derived.Below
import Derived.WalkKit
import Derived.ProofKit
import Derived.OpenShut
import Derived.ShutString
namespace Go.Proofs.Qxb6604015a.fnCutQuotedRoundTrip
open Go.ChangeShapes Go.WideShapes Go.ChangeAt Go.RowKit
open Go.ChangeMaps (open_string shut_string)
set_option linter.unusedVariables false      -- a walk need not use every 'w<i>' (that an integer argument fits its kind)

theorem own : ownKnob Try.prog.godebug = none := by kernel_rfl

/-! ### STEP 1: THE WALK -/
theorem own_shape {w : World} {base n : Nat} {v : Value} {xs : List Value} (h : w.ownsRow base 5 1 v n xs) (hn : 0 < n) : ∃ g cap, v = .slice (some ⟨g, 0, none⟩) n cap := by
  rcases h.2 with ⟨_, h0⟩ | ⟨g, cap, cur, hv, _⟩
  · omega
  · exact ⟨g, cap, hv⟩

theorem bytes_one (l : List UInt8) : ∀ u ∈ Lib.byteCells l, u.oneCell' = true := by
  intro u hu
  simp only [Lib.byteCells, List.mem_map] at hu
  obtain ⟨c, _, rfl⟩ := hu
  rfl
theorem bytes_len (l : List UInt8) : (Lib.byteCells l).length = l.length := by simp [Lib.byteCells]

/-- 'append(line, more...)' where both are owned rows of bytes -/
theorem app_src (w : World) {ops : Array Oper} {rest : List Oper} {op : Oper} {a : Act} {Q : Exit → Act → World → Prop} (hgd : op.guard = none) (s x : Operand)
    (hop : op.op = .call { callee := .builtin .append, args := #[s, x], argTypes := #[26, 26] }) (base base2 n m : Nat) (v v2 : Value) (l l2 : List UInt8)
    (hs : a.eval s = v) (hown : w.ownsRow base 5 1 v n (Lib.byteCells l)) (hx : a.eval x = v2) (hown2 : w.ownsRow base2 5 1 v2 m (Lib.byteCells l2)) (hn : n + m ≤ 5000000000) (hbase : base ≤ w.heap.size)
    (h : ∀ v' w', w'.ownsRow base 5 1 v' (n + m) (Lib.byteCells (l ++ l2)) → Below base w w' → wpList Try.prog ops Q rest (a.put op.dst v') w') :
    wpList Try.prog ops Q (op :: rest) a w := by
  obtain ⟨i5, hi5, hz50, hz51, hz52⟩ := info_parts Try.info5
  rcases hown2.2 with ⟨h1, h2⟩ | ⟨g, cap, cur, hv, _⟩
  · subst h2
    have hl2 : l2 = [] := by have := hown2.1; rw [bytes_len] at this; exact List.eq_nil_of_length_eq_zero (by omega)
    subst hl2
    refine wpList_append_own_none hgd s x 26 hop base 5 i5 1 Try.underlying26 hi5 v n _ hs hown (hx.trans h1) ?_
    refine h v w ?_ (Below.refl _ _)
    rw [List.append_nil]; exact hown
  · subst hv
    refine wpList_append_own _ hgd s x 26 hop base 5 i5 (.int .u8 0) 1 1 Try.underlying26 hi5 hz50 hz51 hz52 rfl (by decide) v n _ hs hown ⟨g, 0, none⟩ m cap (Lib.byteCells l2) hx hown2.1 (hown2.cells rfl) (bytes_one l2) (by unfold maxLen; omega) (by omega) hbase ?_
    intro v' w' h3 h4 _
    rw [bc_app] at h3
    exact h v' w' h3 ((Below.refl _ _).grown h4 hbase (fun k hk => (hown.lt k hk).1))

/-- 'append(line, text...)' -/
theorem app_str (w : World) {ops : Array Oper} {rest : List Oper} {op : Oper} {a : Act} {Q : Exit → Act → World → Prop} (hgd : op.guard = none) (s x : Operand)
    (hop : op.op = .call { callee := .builtin .append, args := #[s, x], argTypes := #[26, 9] }) (base n : Nat) (v : Value) (l : List UInt8) (t : ByteArray)
    (hs : a.eval s = v) (hown : w.ownsRow base 5 1 v n (Lib.byteCells l)) (hx : a.eval x = .string t) (hn : n + t.size ≤ 5000000000) (hbase : base ≤ w.heap.size)
    (h : ∀ v' w', w'.ownsRow base 5 1 v' (n + t.size) (Lib.byteCells (l ++ t.data.toList)) → Below base w w' → wpList Try.prog ops Q rest (a.put op.dst v') w') :
    wpList Try.prog ops Q (op :: rest) a w := by
  obtain ⟨i5, hi5, hz50, hz51, hz52⟩ := info_parts Try.info5
  refine Lib.wpList_append_own_string _ hgd s x 26 9 hop base 5 i5 Try.underlying26 Try.underlying9 hi5 hz50 hz51 hz52 v n _ hs hown t hx (by unfold maxLen; omega) (by omega) hbase ?_
  intro v' w' h3 h4 _
  rw [strCells_eq, bc_app] at h3
  exact h v' w' h3 ((Below.refl _ _).grown h4 hbase (fun k hk => (hown.lt k hk).1))

/-- from the closing quote on: the row holds the opening quote and the escaped text -/
theorem join (E : List UInt8) (t tail : ByteArray) (all : Bool) (hE : Quote.esc all t.data.toList = E) : Quote.cq false ((⟨(34 :: (E ++ 34 :: tail.data.toList)).toArray⟩ : ByteArray).data.toList.drop 1) = some (t.data.toList, tail.data.toList) := by
  subst hE
  exact Quote.cq_esc_all all t.data.toList tail.data.toList

set_option maxRecDepth 100000 in
set_option maxHeartbeats 2000000 in
theorem walk_main (t tail : ByteArray) (all : Bool) (w : World) (hsum : (t.size : Int) + (tail.size : Int) ≤ 1048576) :
    Calls Try.prog 4 #[.string t, .string tail, .bool all] w fun e w' => e = .returned (.bool true) ∧ Below w.heap.size w w' := by
  have h1 : ¬ (1048576 : Int) < (t.size : Int) := by omega
  have h2 : ¬ (1048576 : Int) < (tail.size : Int) := by omega
  have h3 : ¬ (1048576 : Int) < (t.size : Int) + (tail.size : Int) := by omega
  have ht : t.size ≤ 1048576 := by omega
  have Hown0 : Hid ((w.alloc (.cells #[.int .u8 34] 5)).ownsRow w.heap.size 5 1 (.slice (some ⟨w.heap.size, 0, none⟩) 1 1) 1 (Lib.byteCells [34])) := World.ownsRow_lit w #[.int .u8 34] 1 (Nat.le_refl _) (by decide) rfl
  have Hbel0 : Hid (Below w.heap.size w (w.alloc (.cells #[.int .u8 34] 5))) := (Below.refl _ _).alloc (Nat.le_refl _) _
  obtain ⟨E, hE⟩ : ∃ E, Quote.esc all t.data.toList = E := ⟨_, rfl⟩
  obtain ⟨line, hline⟩ : ∃ x, x = (⟨(34 :: (E ++ 34 :: tail.data.toList)).toArray⟩ : ByteArray) := ⟨_, rfl⟩
  have HJ : Hid (Quote.cq false (line.data.toList.drop 1) = some (t.data.toList, tail.data.toList)) := by rw [hline]; exact join E t tail all hE
  have HL : Hid (line = (⟨(34 :: (E ++ 34 :: tail.data.toList)).toArray⟩ : ByteArray)) := hline
  clear hline
  have hEl : E.length ≤ 2 * t.size := by rw [← hE, ← len_list]; exact Quote.esc_len _ _
  have HE : Hid (Quote.esc all t.data.toList = E) := hE
  clear hE
  have hn1 : 1 + E.length ≤ 5000000000 := by omega
  have hn2 : 1 + E.length + 1 ≤ 5000000000 := by omega
  have hn3 : 1 + E.length + 1 + tail.size ≤ 5000000000 := by omega
  have hn4 : 1 + E.length + 1 + tail.size ≤ 8388608 := by omega
  go_enter Try.func4, Try.ntmps4
  go_wp2_with fail
  refine (bytes8_yes _ _ _ _ (by omega)).mono ?_
  rintro e w0 ⟨rfl, hw0⟩
  rw [hw0]
  clear hw0
  go_wp2_with fail
  -- the row behind the escaped text
  refine (esc_any t all _ ht).mono ?_
  rintro e w1 ⟨ao, n, cap, rfl, hlen, hinv, hbel⟩
  rw [HE.out] at hlen hinv
  subst hlen
  have Hrow1 : Hid (w1.ownsRow (w.alloc (.cells #[.int .u8 34] 5)).heap.size 5 1 (.slice ao E.length cap) E.length (Lib.byteCells E)) := hinv.own _ List.mem_cons_self
  have Hown1 : Hid (w1.ownsRow w.heap.size 5 1 (.slice (some ⟨w.heap.size, 0, none⟩) 1 1) 1 (Lib.byteCells [34])) := Hown0.out.kept (RowsKit.grown_of_below hbel none) (Or.inr (by simp [Value.ownBlock]))
  have Hbel1 : Hid (Below w.heap.size w w1) := Hbel0.out.trans (hbel.mono Hbel0.out.size)
  have hbs1 : w.heap.size ≤ w1.heap.size := Hbel1.out.size
  clear hinv hbel
  go_wp2_with (at_builtin; refine app_src _ rfl (.tmp 31) (.tmp 34) rfl w.heap.size _ 1 E.length _ _ [34] E rfl (by exact Hown1.out) rfl (by exact Hrow1.out) hn1 hbs1 ?_)
  intro v2 w2 hown2 hbel2
  have Hown2 : Hid ((w2.alloc (.cells #[.int .u8 34] 5)).ownsRow w.heap.size 5 1 v2 (1 + E.length) (Lib.byteCells ([34] ++ E))) := hown2.alloc _
  have Hbel2 : Hid (Below w.heap.size w (w2.alloc (.cells #[.int .u8 34] 5))) := (Hbel1.out.trans hbel2).alloc (Nat.le_trans hbs1 hbel2.size) _
  have Hrow2 : Hid ((w2.alloc (.cells #[.int .u8 34] 5)).ownsRow w2.heap.size 5 1 (.slice (some ⟨w2.heap.size, 0, none⟩) 1 1) 1 (Lib.byteCells [34])) := World.ownsRow_lit w2 #[.int .u8 34] 1 (Nat.le_refl _) (by decide) rfl
  have hbs2 : w.heap.size ≤ (w2.alloc (.cells #[.int .u8 34] 5)).heap.size := Hbel2.out.size
  clear hown2 hbel2
  go_wp2_with (at_builtin; refine app_src _ rfl (.tmp 36) (.tmp 37) rfl w.heap.size _ (1 + E.length) 1 _ _ ([34] ++ E) [34] rfl (by exact Hown2.out) rfl (by exact Hrow2.out) hn2 hbs2 ?_)
  intro v3 w3 hown3 hbel3
  have Hown3 : Hid (w3.ownsRow w.heap.size 5 1 v3 (1 + E.length + 1) (Lib.byteCells ([34] ++ E ++ [34]))) := hown3
  have Hbel3 : Hid (Below w.heap.size w w3) := Hbel2.out.trans hbel3
  have hbs3 : w.heap.size ≤ w3.heap.size := Hbel3.out.size
  clear hown3 hbel3
  go_wp2_with (at_builtin; refine app_str _ rfl (.tmp 39) (.tmp 40) rfl w.heap.size (1 + E.length + 1) _ ([34] ++ E ++ [34]) tail rfl (by exact Hown3.out) rfl hn3 hbs3 ?_)
  intro v4 w4 hown4 hbel4
  obtain ⟨g4, cap4, rfl⟩ := own_shape hown4 (by omega)
  have hlen4 : (34 :: (E ++ 34 :: tail.data.toList)).length = 1 + E.length + 1 + tail.size := by simp only [List.length_cons, List.length_append, len_list]; omega
  have hconv := conv_own hown4 hlen4
  rw [← HL.out] at hconv
  have hsize : line.size ≤ 8388608 := by
    rw [HL.out]
    show (34 :: (E ++ 34 :: tail.data.toList)).toArray.size ≤ _
    rw [List.size_toArray, hlen4]; exact hn4
  have Hbel4 : Hid (Below w.heap.size w w4) := Hbel3.out.trans hbel4
  clear hown4 hbel4 hlen4
  go_wp2_with fail
  refine (zz_cut_yes line t tail _ hsize HJ).mono ?_
  rintro e w5 ⟨rfl, hbel5⟩
  have Hbel5 : Hid (Below w.heap.size w w5) := Hbel4.out.trans (hbel5.mono Hbel4.out.size)
  clear hbel5
  go_wp2_with fail
  go_ret
  exact ⟨rfl, Hbel5.out⟩

theorem walk (a0 : ByteArray) (a1 : ByteArray) (a2 : Bool) (w0 : a0.size ≤ maxLen) (w1 : a1.size ≤ maxLen) (w : World) :
    Calls Try.prog 4 #[.string a0, .string a1, .bool a2] w fun e w' => e = .returned (.bool true) ∧ Below w.heap.size w w' := by
  by_cases hsum : (a0.size : Int) + (a1.size : Int) ≤ 1048576
  · exact walk_main a0 a1 a2 w hsum
  · go_enter Try.func4, Try.ntmps4
    go_wp2_with fail
    refine (bytes8_no _ _ _ _ w0 w1 (by omega)).mono ?_
    rintro e w1 ⟨rfl, rfl⟩
    go_wp2_with fail
    go_ret
    exact ⟨rfl, Below.refl _ _⟩

/-! ### THE ROW's STEP: WRITTEN OUT: LEAVE IT -/
set_option maxRecDepth 100000 in
theorem lifted (os : Os) (started : os.Started) (H : Type) (enc : TypeId × Value → H) :
    ReturnsInHanded {} Try.checked os 4 .any (Rows.fnCutQuotedRoundTripSpec.pre6 enc Try.prog Try.f4 Rows.fnCutQuotedRoundTripRow.domain false) (Rows.fnCutQuotedRoundTripSpec.post enc Try.prog Try.f4 false true false false) := by
  refine returnsInHanded_of_change (C := Try.checked) own started (by kernel_rfl) Try.func4
    (ChangeSpec.witness6 (enc := enc) (C := Try.checked) false ⟨#[], #[.string ByteArray.empty, .string ByteArray.empty, .bool false], []⟩ 8 (by kernel_rfl) (by kernel_rfl) (by kernel_rfl) (by kernel_rfl)) ?_
  intro W base args ds gs before hval0 hW hcnd _
  have hval : ∀ (j : Nat) t v, Try.f4.params[j]? = some t → args[j]? = some v → Value.okWide Try.prog W .any base t v := hval0
  have hW' := hW
  obtain ⟨p, q, hA0, hV, rfl, hfz, hnd⟩ := hW
  have hA : DataW.TrodAll enc Try.prog W 0 (fun _ => true) true Try.f4.params.toList args.toList ds p := hA0
  rw [Try.params4] at hA hval
  obtain ⟨v0, vs0, d0, ds0, p0, q0, hargs, rfl, rfl, h0, r0⟩ := trodAll_cons hA
  obtain ⟨v1, vs1, d1, ds1, p1, q1, rfl, rfl, rfl, h1, r1⟩ := trodAll_cons r0
  obtain ⟨v2, vs2, d2, ds2, p2, q2, rfl, rfl, rfl, h2, r2⟩ := trodAll_cons r1
  obtain ⟨rfl, rfl, rfl⟩ := trodAll_nil r2
  obtain rfl : args = #[v0, v1, v2] := by cases args; simp_all
  obtain ⟨rfl, rfl⟩ := trodVars_none hV
  obtain ⟨a0, rfl, rfl, rfl, w0⟩ := open_string Try.underlying9 (hval 0 9 v0 rfl rfl) h0
  obtain ⟨a1, rfl, rfl, rfl, w1⟩ := open_string Try.underlying9 (hval 1 9 v1 rfl rfl) h1
  obtain ⟨a2, rfl, rfl, rfl⟩ := open_bool Try.underlying4 (hval 2 4 v2 rfl rfl) h2
  clear hA0 hval0
  simp only [List.append_nil] at hW'
  refine (walk a0 a1 a2 w0 w1 W).mono fun e W' ⟨he, bel⟩ => ?_
  subst he
  exact ⟨_, rfl, _, _, _, [], _, [], hW', trodAll_mk1 (shut_bool Try.underlying4 _), (trodAll_cons_mk (shut_string Try.underlying9 w0) (trodAll_cons_mk (shut_string Try.underlying9 w1) (trodAll_cons_mk (shut_bool Try.underlying4 _) trodAll_mk0))), rfl, bel.frame _, fun h => by cases h⟩

theorem over : Rows.fnCutQuotedRoundTripRow.holds Try.pinned (OpenSpec.ofChange Rows.fnCutQuotedRoundTripSpec) :=
  OpenClaim.holds_of_wide 4 Try.f4 rfl rfl rfl rfl rfl rfl rfl ⟨rfl, rfl, rfl, rfl, rfl⟩ rfl rfl rfl rfl rfl (by kernel_rfl) Try.func4 (by kernel_rfl)
    (of_decide_eq_true (by kernel_rfl)) (by unfold Func.isWrapper; first | (rw [if_pos (by decide +kernel)]; kernel_rfl) | (rw [if_neg (by decide +kernel)]; exact ⟨rfl, rfl⟩))
    (fun os started H enc _ => lifted os started H enc)

/-- ████ THE STATEMENT ████ -/
theorem proved : Rows.FnCutQuotedRoundTripSaid :=
  over
end Go.Proofs.Qxb6604015a.fnCutQuotedRoundTrip
