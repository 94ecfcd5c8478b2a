import Derived.Test.Qxb6601028aDecodeWalks
namespace Go.Proofs.Qxb6601028a.Units
open Go.RowKit RowsKit

def allE (P : List (Nat × List (Nat × Bool))) : List (Nat × Bool) := P.flatMap (·.2)
def froms (P : List (Nat × List (Nat × Bool))) : List Nat := (List.range P.length).map fun l => (allE (P.take l)).length
def tos (P : List (Nat × List (Nat × Bool))) : List Nat := (List.range P.length).map fun l => (allE (P.take (l + 1))).length

theorem allE_snoc (P : List (Nat × List (Nat × Bool))) (L : Nat × List (Nat × Bool)) : allE (P ++ [L]) = allE P ++ L.2 := by simp [allE]
theorem froms_snoc (P : List (Nat × List (Nat × Bool))) (L : Nat × List (Nat × Bool)) : froms (P ++ [L]) = froms P ++ [(allE P).length] := by
  unfold froms
  rw [List.length_append, List.length_singleton, List.range_succ, List.map_append]
  congr 1
  · apply List.map_congr_left
    intro l hl
    rw [List.mem_range] at hl
    rw [List.take_append_of_le_length (by omega)]
  · simp
theorem tos_snoc (P : List (Nat × List (Nat × Bool))) (L : Nat × List (Nat × Bool)) : tos (P ++ [L]) = tos P ++ [(allE P).length + L.2.length] := by
  unfold tos
  rw [List.length_append, List.length_singleton, List.range_succ, List.map_append]
  congr 1
  · apply List.map_congr_left
    intro l hl
    rw [List.mem_range] at hl
    rw [List.take_append_of_le_length (by omega)]
  · simp only [List.map_cons, List.map_nil]
    rw [List.take_of_length_le (by simp), allE_snoc, List.length_append]

def rowI (ao : Option Addr) (m c : Nat) (xs : List Nat) : Row := ⟨3, 1, ao, m, c, xs.map fun (x : Nat) => Value.int .i64 (x : Int)⟩
def rowB (ao : Option Addr) (m c : Nat) (xs : List Bool) : Row := ⟨4, 1, ao, m, c, xs.map Value.bool⟩

/-- the model's six slices -/
def Rows6 (wx : World) (base st wd : Nat) (a8 : Option Addr) (m c8 : Nat) (a9 : Option Addr) (c9 : Nat) (a10 : Option Addr) (c10 : Nat) (a11 : Option Addr) (q c11 : Nat) (a12 : Option Addr) (c12 : Nat) (a13 : Option Addr) (o c13 : Nat)
    (P : List (Nat × List (Nat × Bool))) (G : List (Nat × Bool)) (out : List Nat) : Prop :=
  Inv wx base [rowI a8 m c8 (P.map (·.1)), rowI a9 m c9 (froms P), rowI a10 m c10 (tos P), rowI a11 q c11 (G.map (·.1)), rowB a12 q c12 (G.map (·.2)), rowO st wd a13 o c13 out]

theorem owned_base {w : World} {b b' : Nat} {r : Row} (h : r.owned w b) (hb : b' ≤ b) : r.owned w b' := by
  refine ⟨h.1, ?_⟩
  rcases h.2 with h1 | ⟨g, cap, cur, h1, h2, h3⟩
  · exact Or.inl h1
  · exact Or.inr ⟨g, cap, cur, h1, by omega, h3⟩
theorem cell_I {w : World} {base g m c : Nat} {xs : List Nat} (h : Row.owned w base (rowI (some ⟨g, 0, none⟩) m c xs)) {l x : Nat} (hl : l < m) (hx : xs[l]? = some x) : w.cell? ⟨g, l, none⟩ = some (.int .i64 x) := by
  rw [owned_cell h l (by omega), List.getElem?_map, hx]; rfl
theorem cell_B {w : World} {base g m c : Nat} {xs : List Bool} (h : Row.owned w base (rowB (some ⟨g, 0, none⟩) m c xs)) {l : Nat} {x : Bool} (hl : l < m) (hx : xs[l]? = some x) : w.cell? ⟨g, l, none⟩ = some (.bool x) := by
  rw [owned_cell h l (by omega), List.getElem?_map, hx]; rfl
theorem addr_of {w : World} {base e size n cap : Nat} {ao : Option Addr} {xs : List Value} (h : Row.owned w base ⟨e, size, ao, n, cap, xs⟩) (hn : 0 < n) : ∃ g, ao = some ⟨g, 0, none⟩ := by
  obtain ⟨g, hg, _⟩ := owned_addr h hn; exact ⟨g, hg⟩
theorem split_at {α : Type} {P : List α} {l : Nat} (h : l < P.length) : ∃ P1 L P2, P = P1 ++ L :: P2 ∧ P1.length = l ∧ P.take l = P1 ∧ P.take (l + 1) = P1 ++ [L] := by
  refine ⟨P.take l, P[l], P.drop (l + 1), ?_, by rw [List.length_take]; omega, rfl, ?_⟩
  · rw [← List.drop_eq_getElem_cons h, List.take_append_drop]
  · rw [List.take_succ_eq_append_getElem h]
theorem froms_get {P1 P2 : List (Nat × List (Nat × Bool))} {L : Nat × List (Nat × Bool)} {l : Nat} (h : P1.length = l) : (froms (P1 ++ L :: P2))[l]? = some (allE P1).length := by
  subst h
  unfold froms
  rw [List.getElem?_map, List.getElem?_range (by simp)]
  simp
theorem tos_get {P1 P2 : List (Nat × List (Nat × Bool))} {L : Nat × List (Nat × Bool)} {l : Nat} (h : P1.length = l) : (tos (P1 ++ L :: P2))[l]? = some ((allE P1).length + L.2.length) := by
  subst h
  unfold tos
  rw [List.getElem?_map, List.getElem?_range (by simp)]
  simp only [Option.map_some]
  rw [show P1 ++ L :: P2 = (P1 ++ [L]) ++ P2 by simp, List.take_append_of_le_length (by simp), List.take_of_length_le (by simp), allE_snoc, List.length_append]
theorem allE_get {P1 P2 : List (Nat × List (Nat × Bool))} {L : Nat × List (Nat × Bool)} {s : Nat} (h : s < L.2.length) : (allE (P1 ++ L :: P2))[(allE P1).length + s]? = some (L.2[s]) := by
  have e : allE (P1 ++ L :: P2) = allE P1 ++ (L.2 ++ allE P2) := by simp [allE]
  rw [e, List.getElem?_append_right (by omega), show (allE P1).length + s - (allE P1).length = s by omega, List.getElem?_append_left h, List.getElem?_eq_getElem h]
theorem allE_lt {P1 P2 : List (Nat × List (Nat × Bool))} {L : Nat × List (Nat × Bool)} {s : Nat} (h : s < L.2.length) : (allE P1).length + s < (allE (P1 ++ L :: P2)).length := by
  have := allE_get (P1 := P1) (P2 := P2) h
  exact (List.getElem?_eq_some_iff.1 this).1
theorem any_snoc {L : List (Nat × Bool)} {s col : Nat} (h : s < L.length) : (L.take (s + 1)).any (fun e => e == (col, true)) = ((L.take s).any (fun e => e == (col, true)) || L[s] == (col, true)) := by
  rw [List.take_succ_eq_append_getElem h, List.any_append]; simp
theorem offs_snocI {wx : World} {base st wd m k : Nat} {x : Int} {ao : Option Addr} {c : Nat} {out : List Nat} {rs : List Row} (h : x = ((st + wd * k : Nat) : Int)) (hi : Inv wx base (rs ++ ⟨3, 1, ao, m, c, offs st wd out ++ [.int .i64 x]⟩ :: [])) : Inv wx base (rs ++ [rowO st wd ao m c (out ++ [k])]) := by
  have e : offs st wd (out ++ [k]) = offs st wd out ++ [.int .i64 x] := by rw [h]; simp [offs]
  unfold rowO
  rw [e]; exact hi
/-- 'append(xs, v)' onto a row of ints: what is appended lies in a block that was just laid -/
theorem app_int (w0 : World) {ops : Array Oper} {rest : List Oper} {op : Oper} {a : Act} {Q : Exit → Act → World → Prop} (hgd : op.guard = none) (s x : Operand)
    (hop : op.op = .call { callee := .builtin .append, args := #[s, x], argTypes := #[27, 27] }) (base : Nat) (ao : Option Addr) (n cap : Nat) (xs : List Nat) (A B : List Row) (v : Nat) (vi : Int) (hv : vi = (v : Int))
    (hs : a.eval s = .slice ao n cap) (hinv : Inv w0 base (A ++ rowI ao n cap xs :: B)) (hx : a.eval x = .slice (some ⟨w0.heap.size, 0, none⟩) 1 1) (hn : n ≤ 5000000000) (hbase : base ≤ w0.heap.size)
    (h : ∀ ao' cap' w', Inv w' base (A ++ rowI ao' (n + 1) cap' (xs ++ [v]) :: B) → Below base w0 w' → wpList Try.prog ops Q rest (a.put op.dst (.slice ao' (n + 1) cap')) w') :
    wpList Try.prog ops Q (op :: rest) a (w0.alloc (.cells #[.int .i64 vi] 3)) := by
  subst hv
  obtain ⟨i3, hi3, hz30, hz31, hz32⟩ := info_parts Try.info3
  refine wpList_append_row _ hgd s x 27 hop base 3 i3 (.int .i64 0) 1 8 Try.underlying27 hi3 hz30 hz31 hz32 rfl ao n cap (xs.map fun (x : Nat) => Value.int .i64 (x : Int)) A B hs (hinv.alloc _) ⟨w0.heap.size, 0, none⟩ 1 1 [.int .i64 (v : Int)] hx rfl (cell_one_new _ _ _) (ints_oneCell .i64 [(v : Int)]) (Nat.lt_succ_self 0) (by unfold maxLen; omega) (by omega) (by simp; omega) ?_
  intro ao' cap' w' h1 h2
  refine h ao' cap' w' ?_ (((Below.refl base w0).alloc hbase _).trans h2)
  have e : rowI ao' (n + 1) cap' (xs ++ [v]) = ⟨3, 1, ao', n + 1, cap', (xs.map fun (x : Nat) => Value.int .i64 (x : Int)) ++ [.int .i64 (v : Int)]⟩ := by simp [rowI]
  rw [e]; exact h1
theorem app_bool (w0 : World) {ops : Array Oper} {rest : List Oper} {op : Oper} {a : Act} {Q : Exit → Act → World → Prop} (hgd : op.guard = none) (s x : Operand)
    (hop : op.op = .call { callee := .builtin .append, args := #[s, x], argTypes := #[38, 38] }) (base : Nat) (ao : Option Addr) (n cap : Nat) (xs : List Bool) (A B : List Row) (v : Bool)
    (hs : a.eval s = .slice ao n cap) (hinv : Inv w0 base (A ++ rowB ao n cap xs :: B)) (hx : a.eval x = .slice (some ⟨w0.heap.size, 0, none⟩) 1 1) (hn : n ≤ 5000000000) (hbase : base ≤ w0.heap.size)
    (h : ∀ ao' cap' w', Inv w' base (A ++ rowB ao' (n + 1) cap' (xs ++ [v]) :: B) → Below base w0 w' → wpList Try.prog ops Q rest (a.put op.dst (.slice ao' (n + 1) cap')) w') :
    wpList Try.prog ops Q (op :: rest) a (w0.alloc (.cells #[.bool v] 4)) := by
  obtain ⟨i4, hi4, hz40, hz41, hz42⟩ := info_parts Try.info4
  refine wpList_append_row _ hgd s x 38 hop base 4 i4 (.bool false) 1 1 Try.underlying38 hi4 hz40 hz41 hz42 rfl ao n cap (xs.map Value.bool) A B hs (hinv.alloc _) ⟨w0.heap.size, 0, none⟩ 1 1 [.bool v] hx rfl (cell_one_new _ _ _) (by intro u hu; simp at hu; subst hu; rfl) (Nat.lt_succ_self 0) (by unfold maxLen; omega) (by omega) (by simp; omega) ?_
  intro ao' cap' w' h1 h2
  refine h ao' cap' w' ?_ (((Below.refl base w0).alloc hbase _).trans h2)
  have e : rowB ao' (n + 1) cap' (xs ++ [v]) = ⟨4, 1, ao', n + 1, cap', xs.map Value.bool ++ [.bool v]⟩ := by simp [rowB]
  rw [e]; exact h1
theorem con_a {c : Int} {b : Bool} (h : (c != 10) = false) : false = (b && !Colons.skipc c) := by
  rw [bne_eq_false_iff_eq] at h; subst h; cases b <;> rfl
theorem con_b {c : Int} {b : Bool} (h : (c != 13) = false) : false = (b && !Colons.skipc c) := by
  rw [bne_eq_false_iff_eq] at h; subst h; cases b <;> rfl
theorem con_c {c : Int} {k N : Nat} (h10 : (c != 10) = true) (h13 : (c != 13) = true) (hk : k < N) : (c != 35) = (decide (k < N) && !Colons.skipc c) := by
  rw [bne_iff_ne] at h10 h13
  unfold Colons.skipc
  rw [beq_eq_false_iff_ne.2 h10, beq_eq_false_iff_ne.2 h13, decide_eq_true hk]
  rfl
theorem con_d {c : Int} {k N : Nat} (hk : ¬ k < N) : false = (decide (k < N) && !Colons.skipc c) := by simp [hk]

/-- a line without content -/
theorem goM_skip {C : Nat → Int} {N gk j k j' : Nat} {P : List (Nat × List (Nat × Bool))} {out r : List Nat} (hj : j < N) (hg : N ≤ gk + j) (hk : Colons.sb C (N - j) j = k) (hn : Colons.nl C (N - j) j = j') (hn2 : j < j') (hs : (decide (k < N) && !Colons.skipc (C k)) = false) (h : Colons.goM C N gk j P out = r) :
    ∃ gk', gk' < gk ∧ N ≤ gk' + j' ∧ Colons.goM C N gk' j' P out = r := by
  obtain ⟨gk, rfl⟩ : ∃ x, gk = x + 1 := ⟨gk - 1, by omega⟩
  refine ⟨gk, by omega, by omega, ?_⟩
  rw [← h]
  conv => rhs; unfold Colons.goM
  rw [if_pos hj, hk, hn, if_neg]
  intro ⟨h1, h2⟩
  rw [h2] at hs
  simp [h1] at hs
/-- a line with content -/
theorem goM_line {C : Nat → Int} {N gk j k j' : Nat} {P : List (Nat × List (Nat × Bool))} {out r : List Nat} (hj : j < N) (hg : N ≤ gk + j) (hk : Colons.sb C (N - j) j = k) (hn : Colons.nl C (N - j) j = j') (hn2 : j < j') (hs : (decide (k < N) && !Colons.skipc (C k)) = true) (h : Colons.goM C N gk j P out = r) :
    ∃ gk', gk' < gk ∧ N ≤ gk' + j' ∧ Colons.goM C N gk' j' (P ++ [(k - j + 1, Colons.ents C N j (N - k) k)]) (if C k == 58 && !Colons.held P (k - j + 1) then out ++ [k] else out) = r := by
  obtain ⟨gk, rfl⟩ : ∃ x, gk = x + 1 := ⟨gk - 1, by omega⟩
  refine ⟨gk, by omega, by omega, ?_⟩
  rw [← h]
  conv => rhs; unfold Colons.goM
  simp only [Bool.and_eq_true, decide_eq_true_eq, Bool.not_eq_true'] at hs
  rw [if_pos hj, hk, hn, if_pos hs]

theorem codes_below {b : Nat} {w w' : World} {g n : Nat} {C : Nat → Int} (h : Codes w g n C) (hb : Below b w w') (hg : g < b) : Codes w' g n C := fun k hk => (hb.cell (p := ⟨g, k, none⟩) hg).trans (h k hk)

set_option maxRecDepth 100000 in
set_option maxHeartbeats 4000000 in
theorem model_aux (g n : Nat) (B : Nat → Int) (w : World) (hn : n ≤ 65536) (hB : Src w g n B) (hg : g < w.heap.size) (hb : ∀ k, 0 ≤ B k ∧ B k ≤ 255) (st wd N : Nat) (big0 : Bool) (C : Nat → Int)
    (Hst : Hid (st = stOf n B)) (Hwd : Hid (wd = wdOf n B)) (Hbig : Hid (big0 = bigOf n B)) (HNN : Hid (N = (n - st) / wd)) (HC : Hid (∀ t, C t = if t < N then codeAt n B t else -1)) (R : List Nat) (HR : Hid (Colons.goM C N N 0 [] [] = R)) :
    Calls Try.prog 18 #[.slice (some ⟨g, 0, none⟩) n n] w fun e w' => ∃ ao m c, e = .returned (.slice ao m c) ∧ Row.owned w' w.heap.size (rowO st wd ao m c R) ∧ R.length = m ∧ Below w.heap.size w w' := by
  obtain ⟨i3, hi3, hz30, hz31, hz32⟩ := info_parts Try.info3
  obtain ⟨i4, hi4, hz40, hz41, hz42⟩ := info_parts Try.info4
  have hN : N ≤ n := by rw [HNN.out]; exact Nat.le_trans (Nat.div_le_self _ _) (Nat.sub_le _ _)
  have hsw := st_le n B
  rw [← Hst.out, ← Hwd.out] at hsw
  have HNle : Hid (st + wd * N ≤ n) := by
    have := Nat.mul_div_le (n - st) wd
    rw [← HNN.out] at this
    unfold Hid; omega
  have Hb : Hid _ := hb
  clear hb
  go_enter Try.func18, Try.ntmps18
  go_wp2_with fail
  refine (decode_aux g n B _ hn hB hg Hb.out st wd N big0 (codeAt n B) Hst Hwd Hbig rfl HNN).mono ?_
  rintro e w1 ⟨rfl, hcod, hsz1, hbel1⟩
  have Hcod : Hid (Codes w1 w.heap.size N C) := fun k hk => by rw [HC.out k, if_pos hk]; exact hcod k hk
  have Hbel1 : Hid _ := hbel1
  have hsz : w.heap.size < w1.heap.size := hsz1
  have hCend : Hid (∀ t, N ≤ t → C t = -1) := fun t ht => by rw [HC.out t, if_neg (by omega)]
  clear hcod hsz1 hbel1 HC
  go_wp2_with fail
  go_loopg [8, 9, 10, 11, 12, 13, 14] N (fun gk v8 v9 v10 v11 v12 v13 v14 wr => ∃ (a8 a9 a10 a11 a12 a13 : Option Addr) (m c8 c9 c10 q c11 c12 o c13 j : Nat) (P : List (Nat × List (Nat × Bool))) (out : List Nat),
      v8 = .slice a8 m c8 ∧ v9 = .slice a9 m c9 ∧ v10 = .slice a10 m c10 ∧ v11 = .slice a11 q c11 ∧ v12 = .slice a12 q c12 ∧ v13 = .slice a13 o c13 ∧ v14 = .int .i64 j ∧ j ≤ N ∧ m ≤ j ∧ q ≤ j * big ∧ o ≤ j ∧
      Hid (P.length = m ∧ (allE P).length = q ∧ out.length = o ∧ N ≤ gk + j ∧ Colons.goM C N gk j P out = R ∧ Rows6 wr w1.heap.size st wd a8 m c8 a9 c9 a10 c10 a11 q c11 a12 c12 a13 o c13 P (allE P) out ∧ Below w1.heap.size w1 wr))
  case atStart => exact ⟨none, none, none, none, none, none, 0, 0, 0, 0, 0, 0, 0, 0, 0, 0, [], [], rfl, rfl, rfl, rfl, rfl, rfl, rfl, Nat.zero_le _, Nat.zero_le _, Nat.zero_le _, Nat.zero_le _, rfl, rfl, rfl, Nat.le_refl _, HR.out, inv_nils _ _ [(3, 1), (3, 1), (3, 1), (3, 1), (4, 1), (3, 1)], Below.refl _ _⟩
  case round =>
    obtain ⟨a8, a9, a10, a11, a12, a13, m, c8, c9, c10, q, c11, c12, o, c13, j, P, out, rfl, rfl, rfl, rfl, rfl, rfl, rfl, hj, hm, hq, ho, HS⟩ := hrel
    have hqb : q ≤ 4295491600 := big_fits hq (by omega)
    have HC1 : Hid (Codes wr w.heap.size N C) := codes_below Hcod.out HS.out.2.2.2.2.2.2 hsz
    by_cases hjN : j < N
    · have hji : (j : Int) < (N : Int) := by omega
      have hnl1 := Colons.nl_le C (N - j) j
      have hnl2 : j < Colons.nl C (N - j) j := by
        have := Colons.nl_gt C (N - j - 1) j
        rwa [show N - j - 1 + 1 = N - j by omega] at this
      obtain ⟨j', hj'⟩ : ∃ x, Colons.nl C (N - j) j = x := ⟨_, rfl⟩
      rw [hj'] at hnl1 hnl2
      have Hj' : Hid _ := hj'
      have hj'N : j' ≤ N := by omega
      obtain ⟨k, hk⟩ : ∃ x, Colons.sb C (N - j) j = x := ⟨_, rfl⟩
      have hkj := Colons.sb_ge C (N - j) j
      have hkN := Colons.sb_le C (N - j) j
      rw [hk] at hkj hkN
      have hkN' : k ≤ N := by omega
      have Hk : Hid _ := hk
      clear hj' hk
      go_wp2_with fail
      refine (lineEnd_any w.heap.size N N j C _ (by omega) HC1.out hj).mono ?_
      rintro e w2 ⟨rfl, rfl⟩
      rw [Hj'.out]
      go_upto_block 2 with fail
      go_cut [16] (fun v wx => v = .int .i64 k ∧ wx = w2)
      case first => as_aux_lemma =>
        go_wp2_with fail
        go_loopg [16] (N - j) (fun gk v wx => ∃ t : Nat, v = .int .i64 t ∧ t ≤ N ∧ gk = N - t ∧ Hid (Colons.sb C (N - t) t = k) ∧ wx = w2)
        case atStart => exact ⟨j, rfl, hj, rfl, Hk.out, rfl⟩
        case round =>
          obtain ⟨t, rfl, htN, rfl, Ht, rfl⟩ := hrel
          by_cases htl : t < N
          · have hti : (t : Int) < (N : Int) := by omega
            have hcell := HC1.out t htl
            have e1 : N - t = N - (t + 1) + 1 := by omega
            have hmeas : N - (t + 1) < N - t := by omega
            cases hbl : Colons.blank (C t)
            · have HT2 : Hid (t = k) := by
                show _ = _
                rw [← Ht.out, e1]
                unfold Colons.sb
                rw [if_neg (by rw [hbl]; simp)]
              clear e1
              go_wp2_with (go_at_call 35; refine (blank_any _ _).mono ?_; rintro e w' ⟨rfl, rfl⟩)
              go_meet
              case rel => exact ⟨by rw [HT2.out], rfl⟩
            · have HT2 : Hid (Colons.sb C (N - (t + 1)) (t + 1) = k) := by
                show _ = _
                rw [← Ht.out, e1]
                conv => rhs; unfold Colons.sb
                rw [if_pos hbl]
              clear e1
              go_wp2_with (go_at_call 35; refine (blank_any _ _).mono ?_; rintro e w' ⟨rfl, rfl⟩)
              go_roundg (N - (t + 1))
              case measure => exact hmeas
              case rel => exact ⟨t + 1, by go_num, htl, rfl, HT2, rfl⟩
          · have HT2 : Hid (t = k) := by
              show _ = _
              rw [← Ht.out, show N - t = 0 by omega]; rfl
            go_wp2_with fail
            go_meet
            case rel => exact ⟨by rw [HT2.out], rfl⟩
      case rest =>
        obtain ⟨rfl, rfl⟩ := hcut
        go_upto_region 15 with fail
        go_cut [75] (fun v wx => v = .bool (decide (k < N) && !Colons.skipc (C k)) ∧ wx = wc)
        case first => as_aux_lemma =>
          by_cases hkl : k < N
          · have hki : (k : Int) < (N : Int) := by omega
            have hcell := HC1.out k hkl
            cases h10 : C k != 10
            · go_wp2_with fail
              go_meet
              case rel => exact ⟨val_b (con_a h10), rfl⟩
            · cases h13 : C k != 13
              · go_wp2_with fail
                go_meet
                case rel => exact ⟨val_b (con_b h13), rfl⟩
              · go_wp2_with fail
                go_meet
                case rel => exact ⟨val_b (con_c h10 h13 hkl), rfl⟩
          · go_wp2_with fail
            go_meet
            case rel => exact ⟨val_b (con_d hkl), rfl⟩
        case rest =>
          obtain ⟨rfl, rfl⟩ := hcut
          cases hcon : (decide (k < N) && !Colons.skipc (C k))
          · obtain ⟨gk', hg1, hg2, hg3⟩ := goM_skip hjN HS.out.2.2.2.1 Hk.out Hj'.out hnl2 hcon HS.out.2.2.2.2.1
            have HG : Hid (N ≤ gk' + j' ∧ Colons.goM C N gk' j' P out = R) := ⟨hg2, hg3⟩
            have hm' : m ≤ j' := by omega
            have hq' : q ≤ j' * big := big_up hq (by omega)
            have ho' : o ≤ j' := by omega
            clear hg2 hg3
            go_wp2_with fail
            go_roundg gk'
            case measure => exact hg1
            case rel => exact ⟨a8, a9, a10, a11, a12, a13, m, c8, c9, c10, q, c11, c12, o, c13, j', P, out, rfl, rfl, rfl, rfl, rfl, rfl, rfl, hj'N, hm', hq', ho', HS.out.1, HS.out.2.1, HS.out.2.2.1, HG.out.1, HG.out.2, HS.out.2.2.2.2.2⟩
          · have hkl : k < N := by simp only [Bool.and_eq_true, decide_eq_true_eq] at hcon; exact hcon.1
            have hki : (k : Int) < (N : Int) := by omega
            have hcell := HC1.out k hkl
            obtain ⟨gk', hg1, hg2, hg3⟩ := goM_line hjN HS.out.2.2.2.1 Hk.out Hj'.out hnl2 hcon HS.out.2.2.2.2.1
            have HG : Hid (N ≤ gk' + j' ∧ Colons.goM C N gk' j' (P ++ [(k - j + 1, Colons.ents C N j (N - k) k)]) (if C k == 58 && !Colons.held P (k - j + 1) then out ++ [k] else out) = R) := ⟨hg2, hg3⟩
            clear hg2 hg3
            have hcolb : k - j + 1 ≤ 65540 := by omega
            obtain ⟨col, hcol⟩ : ∃ x, k - j + 1 = x := ⟨_, rfl⟩
            rw [hcol] at hcolb
            have Hcol : Hid _ := hcol
            have hcolI : Hid ((k : Int) - (j : Int) + 1 = (col : Int)) := by unfold Hid; omega
            rw [hcol] at HG
            clear hcol
            obtain ⟨out', hout'⟩ : ∃ x, (if C k == 58 && !Colons.held P col then out ++ [k] else out) = x := ⟨_, rfl⟩
            rw [hout'] at HG
            have Hout : Hid _ := hout'
            clear hout'
            go_upto_region 17 with fail
            rw [hcolI.out]
            go_upto_if 84 with fail
            go_cut [13, 84] (fun v13 _ wx => ∃ (a13' : Option Addr) (o' c13' : Nat), v13 = .slice a13' o' c13' ∧ o' ≤ j + 1 ∧ Hid (out'.length = o' ∧ Rows6 wx w1.heap.size st wd a8 m c8 a9 c9 a10 c10 a11 q c11 a12 c12 a13' o' c13' P (allE P) out' ∧ Below w1.heap.size w1 wx))
            case first => as_aux_lemma =>
              cases h58 : C k == 58
              · have HO : Hid (out' = out) := by show _ = _; rw [← Hout.out, h58]; rfl
                go_wp2_with fail
                go_meet
                case rel => exact ⟨a13, o, c13, rfl, by omega, by rw [HO.out]; exact HS.out.2.2.1, by rw [HO.out]; exact HS.out.2.2.2.2.2.1, HS.out.2.2.2.2.2.2⟩
              · go_upto_block 4 with fail
                go_cut [18] (fun v wx => v = .bool (Colons.held P col) ∧ wx = wc)
                case first => as_aux_lemma =>
                  go_wp2_with fail
                  go_loopg [18, 19, 20] m (fun gk v18 v19 _ wx => ∃ l : Nat, v18 = .bool false ∧ v19 = .int .i64 ((l : Int) - 1) ∧ l ≤ m ∧ gk = l ∧ Hid (Colons.held (P.take l) col = Colons.held P col) ∧ wx = wc)
                  case atStart => exact ⟨m, rfl, rfl, Nat.le_refl _, rfl, by rw [List.take_of_length_le (by rw [HS.out.1]; omega)]; rfl, rfl⟩
                  case round =>
                    obtain ⟨l, rfl, rfl, hlm, rfl, Hl, rfl⟩ := hrel
                    cases gk with
                    | zero =>
                      have HF : Hid (false = Colons.held P col) := by show _ = _; rw [← Hl.out]; rfl
                      go_wp2_with fail
                      go_meet
                      case rel => exact ⟨val_b HF.out, rfl⟩
                    | succ l =>
                      obtain ⟨P1, L, P2, hP, hP1, hT0, hT1⟩ := split_at (P := P) (l := l) (by rw [HS.out.1]; omega)
                      have hr6 := HS.out.2.2.2.2.2.1
                      have ow8 := Inv.at (A := []) hr6
                      have ow9 := Inv.at (A := [_]) hr6
                      have ow10 := Inv.at (A := [_, _]) hr6
                      have ow11 := Inv.at (A := [_, _, _]) hr6
                      have ow12 := Inv.at (A := [_, _, _, _]) hr6
                      obtain ⟨g8, rfl⟩ := addr_of ow8 (by omega)
                      obtain ⟨g9, rfl⟩ := addr_of ow9 (by omega)
                      obtain ⟨g10, rfl⟩ := addr_of ow10 (by omega)
                      have hx8 : wr.cell? ⟨g8, l, none⟩ = some (.int .i64 L.1) := cell_I ow8 (by omega) (by rw [hP, List.map_append, List.getElem?_append_right (by simp; omega)]; simp [hP1])
                      have hx9 : wr.cell? ⟨g9, l, none⟩ = some (.int .i64 (allE P1).length) := cell_I ow9 (by omega) (by rw [hP]; exact froms_get hP1)
                      have hx10 : wr.cell? ⟨g10, l, none⟩ = some (.int .i64 ((allE P1).length + L.2.length : Nat)) := cell_I ow10 (by omega) (by rw [hP]; exact tos_get hP1)
                      have hlI : ((l + 1 : Nat) : Int) - 1 = (l : Int) := by omega
                      have hlq : (allE P1).length + L.2.length ≤ q := by
                        have h1 := HS.out.2.1
                        rw [hP] at h1
                        simp [allE] at h1 ⊢
                        omega
                      by_cases hle : L.1 ≤ col
                      · have hleI : (L.1 : Int) ≤ (col : Int) := by omega
                        have HH : Hid (L.2.any (fun e => e == (col, true)) = Colons.held P col) := by
                          show _ = _
                          rw [← Hl.out, hT1, Colons.held_snoc, if_pos hle]
                        have HCE : Hid (∀ s, (hs : s < L.2.length) → ∃ g11 g12, a11 = some ⟨g11, 0, none⟩ ∧ a12 = some ⟨g12, 0, none⟩ ∧ wr.cell? ⟨g11, (allE P1).length + s, none⟩ = some (.int .i64 (L.2[s].1 : Nat)) ∧ wr.cell? ⟨g12, (allE P1).length + s, none⟩ = some (.bool L.2[s].2)) := by
                          intro s hs
                          have hlt := allE_lt (P1 := P1) (P2 := P2) hs
                          rw [← hP, HS.out.2.1] at hlt
                          obtain ⟨g11, rfl⟩ := addr_of ow11 (by omega)
                          obtain ⟨g12, rfl⟩ := addr_of ow12 (by omega)
                          refine ⟨g11, g12, rfl, rfl, cell_I ow11 hlt ?_, cell_B ow12 hlt ?_⟩
                          · rw [List.getElem?_map, hP, allE_get hs]; rfl
                          · rw [List.getElem?_map, hP, allE_get hs]; rfl
                        clear ow8 ow9 ow10 ow11 ow12 hr6 hP hP1 hT0 hT1
                        generalize (allE P1).length = f at *
                        generalize hLL : L.2 = LL at *
                        clear hLL
                        obtain ⟨len, hlen⟩ : ∃ x, LL.length = x := ⟨_, rfl⟩
                        rw [hlen] at hx10 hlq
                        have Hlen : Hid _ := hlen
                        clear hlen
                        go_wp2_with fail
                        go_loopg [18, 20] len (fun gk v18 v20 wx => ∃ s : Nat, v18 = .bool ((LL.take s).any (fun e => e == (col, true))) ∧ v20 = .int .i64 ((f + s : Nat) : Int) ∧ s ≤ len ∧ gk = len - s ∧ wx = wr)
                        case atStart => exact ⟨0, rfl, rfl, Nat.zero_le _, rfl, rfl⟩
                        case round =>
                          obtain ⟨s, rfl, rfl, hsl, rfl, rfl⟩ := hrel
                          have hfs : f + s ≤ 4295491600 := by omega
                          by_cases hs : s < len
                          · have hsL : s < LL.length := by have := Hlen.out; omega
                            obtain ⟨g11, g12, rfl, rfl, hy11, hy12⟩ := HCE.out s hsL
                            have Hany := any_snoc (col := col) hsL
                            have hfsI : ((f + s : Nat) : Int) < ((f + len : Nat) : Int) := by omega
                            have hfsq : ((f + s : Nat) : Int) < (q : Int) := by omega
                            have hmeas : len - (s + 1) < len - s := by omega
                            generalize LL[s] = e at *
                            obtain ⟨e1, e2⟩ := e
                            simp only at hy11 hy12
                            have HA : Hid _ := Hany
                            clear Hany
                            generalize hb0 : (LL.take s).any (fun e => e == (col, true)) = b0
                            have Hb0 : Hid _ := hb0
                            clear hb0
                            by_cases he : e1 = col
                            · have heI : ((e1 : Int) == (col : Int)) = true := by rw [beq_iff_eq]; omega
                              cases e2 with
                              | true =>
                                have HB1 : Hid (true = (LL.take (s + 1)).any (fun e => e == (col, true))) := by show _ = _; rw [HA.out, he]; simp
                                go_wp2_with fail
                                go_roundg (len - (s + 1))
                                case measure => exact hmeas
                                case rel => exact ⟨s + 1, val_b HB1.out, by go_num, hs, rfl, rfl⟩
                              | false =>
                                have HB1 : Hid (b0 = (LL.take (s + 1)).any (fun e => e == (col, true))) := by show _ = _; rw [HA.out, Hb0.out]; simp
                                go_wp2_with fail
                                go_roundg (len - (s + 1))
                                case measure => exact hmeas
                                case rel => exact ⟨s + 1, val_b HB1.out, by go_num, hs, rfl, rfl⟩
                            · have heI : ((e1 : Int) == (col : Int)) = false := by rw [beq_eq_false_iff_ne]; omega
                              have HB1 : Hid (b0 = (LL.take (s + 1)).any (fun e => e == (col, true))) := by
                                show _ = _
                                rw [HA.out, Hb0.out]
                                have : ((e1, e2) == (col, true)) = false := by
                                  rw [beq_eq_false_iff_ne]
                                  intro h
                                  exact he (Prod.mk.inj h).1
                                rw [this]; simp
                              go_wp2_with fail
                              go_roundg (len - (s + 1))
                              case measure => exact hmeas
                              case rel => exact ⟨s + 1, val_b HB1.out, by go_num, hs, rfl, rfl⟩
                          · have hsI : ¬ ((f + s : Nat) : Int) < ((f + len : Nat) : Int) := by omega
                            have HB1 : Hid ((LL.take s).any (fun e => e == (col, true)) = Colons.held P col) := by
                              show _ = _
                              rw [List.take_of_length_le (by have := Hlen.out; omega)]; exact HH.out
                            rw [HB1.out]
                            go_wp2_with fail
                            go_meet
                            case rel => exact ⟨rfl, rfl⟩
                      · have hleI : ¬ (L.1 : Int) ≤ (col : Int) := by omega
                        have HH : Hid (Colons.held (P.take l) col = Colons.held P col) := by
                          show _ = _
                          rw [← Hl.out, hT1, Colons.held_snoc, if_neg hle, hT0]
                        have hlm' : l ≤ m := by omega
                        go_wp2_with fail
                        go_roundg l
                        case measure => exact Nat.lt_succ_self _
                        case rel => exact ⟨l, rfl, rfl, hlm', rfl, HH, rfl⟩
                case rest =>
                  obtain ⟨rfl, rfl⟩ := hcut
                  cases hh : Colons.held P col
                  · have HO : Hid (out' = out ++ [k]) := by show _ = _; rw [← Hout.out, h58, hh]; rfl
                    have hx1 : o + 1 ≤ maxLen := by unfold maxLen; omega
                    have hx2 : (o + 1) * 8 ≤ 140737488355328 := by omega
                    have hbs : w1.heap.size ≤ wc.heap.size := (HS.out.2.2.2.2.2.2).size
                    have ho1 : o + 1 ≤ j + 1 := by omega
                    rcases hsw.2.2 with rfl | rfl
                    · have hbase' : w1.heap.size ≤ (wc.alloc (.cells #[.int .i64 ((st : Int) + (k : Int))] 3)).heap.size := by simp; omega
                      have Hinv3 : Inv (wc.alloc (.cells #[.int .i64 ((st : Int) + (k : Int))] 3)) w1.heap.size ([rowI a8 m c8 (P.map (·.1)), rowI a9 m c9 (froms P), rowI a10 m c10 (tos P), rowI a11 q c11 ((allE P).map (·.1)), rowB a12 q c12 ((allE P).map (·.2))] ++ ⟨3, 1, a13, o, c13, offs st 1 out⟩ :: []) := Inv.alloc HS.out.2.2.2.2.2.1 _
                      have HB3 : Hid (Below w1.heap.size w1 (wc.alloc (.cells #[.int .i64 ((st : Int) + (k : Int))] 3))) := (HS.out.2.2.2.2.2.2).alloc hbs _
                      go_wp2_with (at_builtin; refine wpList_append_row _ rfl (.tmp 124) (.tmp 130) 27 rfl w1.heap.size 3 i3 (.int .i64 0) 1 8 Try.underlying27 hi3 hz30 hz31 hz32 rfl a13 o c13 (offs st 1 out) _ [] rfl Hinv3 ⟨wc.heap.size, 0, none⟩ 1 1 [.int .i64 ((st : Int) + (k : Int))] rfl rfl (cell_one_new _ _ _) (ints_oneCell .i64 [(st : Int) + (k : Int)]) (Nat.lt_succ_self 0) hx1 hx2 hbase' ?_)
                      intro ao' cap' w3 hinv3 hbel3
                      have HR3 : Hid (Rows6 w3 w1.heap.size st 1 a8 m c8 a9 c9 a10 c10 a11 q c11 a12 c12 ao' (o + 1) cap' P (allE P) out') := by
                        rw [HO.out]
                        exact offs_snocI (rs := [_, _, _, _, _]) (x := (st : Int) + (k : Int)) (k := k) (wd := 1) (st := st) (by omega) hinv3
                      clear hinv3
                      go_wp2_with fail
                      go_meet
                      case rel => exact ⟨ao', o + 1, cap', rfl, ho1, by rw [HO.out, List.length_append, HS.out.2.2.1]; rfl, HR3.out, (HB3.out).trans hbel3⟩
                    · have hbase' : w1.heap.size ≤ (wc.alloc (.cells #[.int .i64 ((st : Int) + (k : Int) * 2)] 3)).heap.size := by simp; omega
                      have Hinv3 : Inv (wc.alloc (.cells #[.int .i64 ((st : Int) + (k : Int) * 2)] 3)) w1.heap.size ([rowI a8 m c8 (P.map (·.1)), rowI a9 m c9 (froms P), rowI a10 m c10 (tos P), rowI a11 q c11 ((allE P).map (·.1)), rowB a12 q c12 ((allE P).map (·.2))] ++ ⟨3, 1, a13, o, c13, offs st 2 out⟩ :: []) := Inv.alloc HS.out.2.2.2.2.2.1 _
                      have HB3 : Hid (Below w1.heap.size w1 (wc.alloc (.cells #[.int .i64 ((st : Int) + (k : Int) * 2)] 3))) := (HS.out.2.2.2.2.2.2).alloc hbs _
                      go_wp2_with (at_builtin; refine wpList_append_row _ rfl (.tmp 124) (.tmp 130) 27 rfl w1.heap.size 3 i3 (.int .i64 0) 1 8 Try.underlying27 hi3 hz30 hz31 hz32 rfl a13 o c13 (offs st 2 out) _ [] rfl Hinv3 ⟨wc.heap.size, 0, none⟩ 1 1 [.int .i64 ((st : Int) + (k : Int) * 2)] rfl rfl (cell_one_new _ _ _) (ints_oneCell .i64 [(st : Int) + (k : Int) * 2]) (Nat.lt_succ_self 0) hx1 hx2 hbase' ?_)
                      intro ao' cap' w3 hinv3 hbel3
                      have HR3 : Hid (Rows6 w3 w1.heap.size st 2 a8 m c8 a9 c9 a10 c10 a11 q c11 a12 c12 ao' (o + 1) cap' P (allE P) out') := by
                        rw [HO.out]
                        exact offs_snocI (rs := [_, _, _, _, _]) (x := (st : Int) + (k : Int) * 2) (k := k) (wd := 2) (st := st) (by omega) hinv3
                      clear hinv3
                      go_wp2_with fail
                      go_meet
                      case rel => exact ⟨ao', o + 1, cap', rfl, ho1, by rw [HO.out, List.length_append, HS.out.2.2.1]; rfl, HR3.out, (HB3.out).trans hbel3⟩
                  · have HO : Hid (out' = out) := by show _ = _; rw [← Hout.out, h58, hh]; rfl
                    go_wp2_with fail
                    go_meet
                    case rel => exact ⟨a13, o, c13, rfl, by omega, by rw [HO.out]; exact HS.out.2.2.1, by rw [HO.out]; exact HS.out.2.2.2.2.2.1, HS.out.2.2.2.2.2.2⟩
            case rest =>
              obtain ⟨a13', o', c13', rfl, ho', HO⟩ := hcut
              have ho'j : o' ≤ j' := by omega
              have hm1j : m + 1 ≤ j' := by omega
              go_wp2_with fail
              go_loopg [11, 12, 22, 23] (N - k) (fun gk v11 v12 v22 _ wx => ∃ (b11 b12 : Option Addr) (q' d11 d12 p : Nat) (F : List (Nat × Bool)), v11 = .slice b11 q' d11 ∧ v12 = .slice b12 q' d12 ∧ v22 = .int .i64 p ∧ p ≤ N ∧ k ≤ p ∧ gk = N - p ∧
                  Hid ((allE P ++ F).length = q' ∧ F ++ Colons.ents C N j (N - p) p = Colons.ents C N j (N - k) k ∧ Rows6 wx w1.heap.size st wd a8 m c8 a9 c9 a10 c10 b11 q' d11 b12 d12 a13' o' c13' P (allE P ++ F) out' ∧ Below w1.heap.size w1 wx))
              case atStart => exact ⟨a11, a12, q, c11, c12, k, [], rfl, rfl, rfl, hkN', Nat.le_refl _, rfl, by rw [List.append_nil]; exact HS.out.2.1, rfl, by rw [List.append_nil]; exact HO.out.2.1, HO.out.2.2⟩
              case round =>
                obtain ⟨b11, b12, q', d11, d12, p, F, rfl, rfl, rfl, hpN, hkp, rfl, HE⟩ := hrel
                have hq' : q' ≤ q + 65537 := by
                  have h1 := HE.out.1
                  rw [List.length_append, HS.out.2.1] at h1
                  have h2 := congrArg List.length HE.out.2.1
                  rw [List.length_append] at h2
                  have h3 := ents_len C N j (N - k) k
                  omega
                have hbs : w1.heap.size ≤ wr.heap.size := (HE.out.2.2.2).size
                have HC2 : Hid (Codes wr w.heap.size N C) := codes_below Hcod.out HE.out.2.2.2 hsz
                obtain ⟨b, hb⟩ : ∃ b, (C p == 63) = b := ⟨_, rfl⟩
                go_upto_if 137 with fail
                go_cut [23, 137] (fun v _ wx => v = .int .i64 (C p) ∧ wx = wr)
                case first => as_aux_lemma =>
                  by_cases hpl : p < N
                  · have hpI : (p : Int) < (N : Int) := by omega
                    have hce := HC2.out p hpl
                    go_wp2_with fail
                    go_meet
                    case rel => exact ⟨rfl, rfl⟩
                  · have hpI : ¬ (p : Int) < (N : Int) := by omega
                    have HM : Hid (C p = -1) := hCend.out p (by omega)
                    go_wp2_with fail
                    go_meet
                    case rel => exact ⟨val_i64 HM.out.symm, rfl⟩
                case rest =>
                  obtain ⟨rfl, rfl⟩ := hcut
                  have hqn : q' ≤ 5000000000 := by omega
                  have hmn : m ≤ 5000000000 := by omega
                  have hpv : ((p : Int) - (j : Int) + 1) = ((p - j + 1 : Nat) : Int) := by omega
                  have Hpv : Hid _ := hpv
                  clear hpv
                  obtain ⟨G1, hG1⟩ : ∃ x, (allE P ++ F).map (·.1) = x := ⟨_, rfl⟩
                  obtain ⟨G2, hG2⟩ : ∃ x, (allE P ++ F).map (·.2) = x := ⟨_, rfl⟩
                  obtain ⟨P0, hP0⟩ : ∃ x, P.map (·.1) = x := ⟨_, rfl⟩
                  have HG1 : Hid _ := hG1
                  have HG2 : Hid _ := hG2
                  have HP0 : Hid _ := hP0
                  clear hG1 hG2 hP0
                  cases hmk : Colons.mark (C p)
                  · have hA45 : (C p != 45) = true := by simp [Colons.mark] at hmk; simp [hmk]
                    have hA63 : (C p != 63) = true := by simp [Colons.mark] at hmk; simp [hmk]
                    have hA58 : (C p != 58) = true := by simp [Colons.mark] at hmk; simp [hmk]
                    have HL : Hid (F ++ [(p - j + 1, b)] = Colons.ents C N j (N - k) k) := by
                      show _ = _
                      rw [← HE.out.2.1, ents_last hmk, hb]
                    have Hrows : Inv wc w1.heap.size ([rowI a8 m c8 P0, rowI a9 m c9 (froms P), rowI a10 m c10 (tos P)] ++ rowI b11 q' d11 G1 :: [rowB b12 q' d12 G2, rowO st wd a13' o' c13' out']) := by rw [← HG1.out, ← HG2.out, ← HP0.out]; exact HE.out.2.2.1
                    go_wp2_with (at_builtin; refine app_int _ rfl (.tmp 142) (.tmp 147) rfl w1.heap.size b11 q' d11 _ _ _ (p - j + 1) _ Hpv.out rfl Hrows rfl hqn hbs ?_)
                    intro e11 f11 w3 hinv3 hbel3
                    have hbs3 : w1.heap.size ≤ w3.heap.size := Nat.le_trans hbs hbel3.size
                    have Hrows3 : Inv w3 w1.heap.size ([rowI a8 m c8 P0, rowI a9 m c9 (froms P), rowI a10 m c10 (tos P), rowI e11 (q' + 1) f11 (G1 ++ [p - j + 1])] ++ rowB b12 q' d12 G2 :: [rowO st wd a13' o' c13' out']) := hinv3
                    clear hinv3 Hrows
                    go_wp2_with (at_builtin; refine app_bool _ rfl (.tmp 149) (.tmp 152) rfl w1.heap.size b12 q' d12 _ _ _ b rfl Hrows3 rfl hqn hbs3 ?_)
                    intro e12 f12 w4 hinv4 hbel4
                    have hbs4 : w1.heap.size ≤ w4.heap.size := Nat.le_trans hbs3 hbel4.size
                    have Hrows4 : Inv w4 w1.heap.size ([] ++ rowI a8 m c8 P0 :: [rowI a9 m c9 (froms P), rowI a10 m c10 (tos P), rowI e11 (q' + 1) f11 (G1 ++ [p - j + 1]), rowB e12 (q' + 1) f12 (G2 ++ [b]), rowO st wd a13' o' c13' out']) := hinv4
                    clear hinv4 Hrows3
                    go_wp2_with (at_builtin; refine app_int _ rfl (.tmp 178) (.tmp 180) rfl w1.heap.size a8 m c8 _ _ _ col _ rfl rfl Hrows4 rfl hmn hbs4 ?_)
                    intro e8 f8 w5 hinv5 hbel5
                    have hbs5 : w1.heap.size ≤ w5.heap.size := Nat.le_trans hbs4 hbel5.size
                    have Hrows5 : Inv w5 w1.heap.size ([rowI e8 (m + 1) f8 (P0 ++ [col])] ++ rowI a9 m c9 (froms P) :: [rowI a10 m c10 (tos P), rowI e11 (q' + 1) f11 (G1 ++ [p - j + 1]), rowB e12 (q' + 1) f12 (G2 ++ [b]), rowO st wd a13' o' c13' out']) := hinv5
                    clear hinv5 Hrows4
                    go_wp2_with (at_builtin; refine app_int _ rfl (.tmp 182) (.tmp 184) rfl w1.heap.size a9 m c9 _ _ _ q _ rfl rfl Hrows5 rfl hmn hbs5 ?_)
                    intro e9 f9 w6 hinv6 hbel6
                    have hbs6 : w1.heap.size ≤ w6.heap.size := Nat.le_trans hbs5 hbel6.size
                    have Hrows6 : Inv w6 w1.heap.size ([rowI e8 (m + 1) f8 (P0 ++ [col]), rowI e9 (m + 1) f9 (froms P ++ [q])] ++ rowI a10 m c10 (tos P) :: [rowI e11 (q' + 1) f11 (G1 ++ [p - j + 1]), rowB e12 (q' + 1) f12 (G2 ++ [b]), rowO st wd a13' o' c13' out']) := hinv6
                    clear hinv6 Hrows5
                    have hq1 : (q' : Int) + 1 = ((q' + 1 : Nat) : Int) := by omega
                    have Hq1 : Hid _ := hq1
                    clear hq1
                    go_wp2_with (at_builtin; refine app_int _ rfl (.tmp 186) (.tmp 189) rfl w1.heap.size a10 m c10 _ _ _ (q' + 1) _ Hq1.out rfl Hrows6 rfl hmn hbs6 ?_)
                    intro e10 f10 w7 hinv7 hbel7
                    have HLn : Hid ((allE (P ++ [(col, Colons.ents C N j (N - k) k)])).length = q' + 1) := by
                      show _ = _
                      rw [allE_snoc, ← HL.out, ← List.append_assoc, List.length_append, HE.out.1]; rfl
                    have HRf : Hid (Rows6 w7 w1.heap.size st wd e8 (m + 1) f8 e9 f9 e10 f10 e11 (q' + 1) f11 e12 f12 a13' o' c13' (P ++ [(col, Colons.ents C N j (N - k) k)]) (allE (P ++ [(col, Colons.ents C N j (N - k) k)])) out') := by
                      have e1 : froms (P ++ [(col, Colons.ents C N j (N - k) k)]) = froms P ++ [q] := by rw [froms_snoc, HS.out.2.1]
                      have e2 : tos (P ++ [(col, Colons.ents C N j (N - k) k)]) = tos P ++ [q' + 1] := by
                        have h := HLn.out
                        rw [allE_snoc, List.length_append] at h
                        rw [tos_snoc, h]
                      have e3 : allE (P ++ [(col, Colons.ents C N j (N - k) k)]) = allE P ++ F ++ [(p - j + 1, b)] := by rw [allE_snoc, ← HL.out, List.append_assoc]
                      unfold Rows6 Hid
                      have e4 : (P ++ [(col, Colons.ents C N j (N - k) k)]).map (·.1) = P0 ++ [col] := by rw [List.map_append, HP0.out]; rfl
                      have e5 : (allE P ++ F ++ [(p - j + 1, b)]).map (·.1) = G1 ++ [p - j + 1] := by rw [List.map_append, HG1.out]; rfl
                      have e6 : (allE P ++ F ++ [(p - j + 1, b)]).map (·.2) = G2 ++ [b] := by rw [List.map_append, HG2.out]; rfl
                      rw [e1, e2, e3, e4, e5, e6]
                      exact hinv7
                    have HBf : Hid (Below w1.heap.size w1 w7) := ((((HE.out.2.2.2).trans hbel3).trans hbel4).trans hbel5).trans (hbel6.trans hbel7)
                    have hqf : q' + 1 ≤ j' * big := by
                      have h := HLn.out
                      rw [allE_snoc, List.length_append, HS.out.2.1] at h
                      have h3 := ents_len C N j (N - k) k
                      rw [← h]
                      exact big_add hq hnl2 (by show (Colons.ents C N j (N - k) k).length ≤ 65537; omega)
                    clear hinv7 Hrows6 hbel3 hbel4 hbel5 hbel6 hbel7
                    go_wp2_with fail
                    go_roundg gk'
                    case measure => exact hg1
                    case rel => exact ⟨e8, e9, e10, e11, e12, a13', m + 1, f8, f9, f10, q' + 1, f11, f12, o', c13', j', P ++ [(col, Colons.ents C N j (N - k) k)], out', rfl, rfl, rfl, rfl, rfl, rfl, rfl, hj'N, hm1j, hqf, ho'j, by rw [List.length_append, HS.out.1]; rfl, HLn.out, HO.out.1, HG.out.1, by rw [← HG.out.2, ← Hcol.out], HRf.out, HBf.out⟩
                  · have hpl : p < N := by
                      by_cases h : p < N
                      · exact h
                      · rw [hCend.out p (by omega)] at hmk; simp [Colons.mark] at hmk
                    have hcase : (C p != 45) = false ∨ ((C p != 45) = true ∧ (C p != 63) = false) ∨ ((C p != 45) = true ∧ (C p != 63) = true ∧ (C p != 58) = false) := by
                      simp only [Colons.mark, Bool.or_eq_true, beq_iff_eq] at hmk
                      simp only [bne_eq_false_iff_eq, bne_iff_ne]
                      omega
                    have hnm : ∀ t, N ≤ t → Colons.mark (C t) = false := fun t ht => by rw [hCend.out t ht]; rfl
                    have hge := Colons.sb_ge C (N - (p + 1)) (p + 1)
                    have hle := Colons.sb_le C (N - (p + 1)) (p + 1)
                    obtain ⟨p', hp'⟩ : ∃ x, Colons.sb C (N - (p + 1)) (p + 1) = x := ⟨_, rfl⟩
                    rw [hp'] at hge hle
                    have HL : Hid (F ++ [(p - j + 1, b)] ++ Colons.ents C N j (N - p') p' = Colons.ents C N j (N - k) k) := by
                      show _ = _
                      rw [← HE.out.2.1, ents_mark hnm hmk hp', hb]; simp
                    have Hp' : Hid _ := hp'
                    clear hp' hmk hnm
                    have hp'N : p' ≤ N := by omega
                    have hkp' : k ≤ p' := by omega
                    have hmeas : N - p' < N - p := by omega
                    have hpI : (p : Int) < (N : Int) := by omega
                    have hpl1 : p + 1 ≤ N := hpl
                    have Hrows : Inv wc w1.heap.size ([rowI a8 m c8 P0, rowI a9 m c9 (froms P), rowI a10 m c10 (tos P)] ++ rowI b11 q' d11 G1 :: [rowB b12 q' d12 G2, rowO st wd a13' o' c13' out']) := by rw [← HG1.out, ← HG2.out, ← HP0.out]; exact HE.out.2.2.1
                    rcases hcase with h45 | ⟨h45, h63⟩ | ⟨h45, h63, h58⟩
                    all_goals
                      go_wp2_with (at_builtin; refine app_int _ rfl (.tmp 142) (.tmp 147) rfl w1.heap.size b11 q' d11 _ _ _ (p - j + 1) _ Hpv.out rfl Hrows rfl hqn hbs ?_)
                      intro e11 f11 w3 hinv3 hbel3
                      have hbs3 : w1.heap.size ≤ w3.heap.size := Nat.le_trans hbs hbel3.size
                      have Hrows3 : Inv w3 w1.heap.size ([rowI a8 m c8 P0, rowI a9 m c9 (froms P), rowI a10 m c10 (tos P), rowI e11 (q' + 1) f11 (G1 ++ [p - j + 1])] ++ rowB b12 q' d12 G2 :: [rowO st wd a13' o' c13' out']) := hinv3
                      clear hinv3 Hrows
                      go_wp2_with (at_builtin; refine app_bool _ rfl (.tmp 149) (.tmp 152) rfl w1.heap.size b12 q' d12 _ _ _ b rfl Hrows3 rfl hqn hbs3 ?_)
                      intro e12 f12 w4 hinv4 hbel4
                      have HRf : Hid (Rows6 w4 w1.heap.size st wd a8 m c8 a9 c9 a10 c10 e11 (q' + 1) f11 e12 f12 a13' o' c13' P (allE P ++ (F ++ [(p - j + 1, b)])) out') := by
                        have e5 : (allE P ++ (F ++ [(p - j + 1, b)])).map (·.1) = G1 ++ [p - j + 1] := by rw [← List.append_assoc, List.map_append, HG1.out]; rfl
                        have e6 : (allE P ++ (F ++ [(p - j + 1, b)])).map (·.2) = G2 ++ [b] := by rw [← List.append_assoc, List.map_append, HG2.out]; rfl
                        unfold Rows6 Hid
                        rw [e5, e6, HP0.out]
                        exact hinv4
                      have HBf : Hid (Below w1.heap.size w1 w4) := ((HE.out.2.2.2).trans hbel3).trans hbel4
                      have HC4 : Hid (Codes w4 w.heap.size N C) := codes_below Hcod.out HBf.out hsz
                      have HLn : Hid ((allE P ++ (F ++ [(p - j + 1, b)])).length = q' + 1) := by
                        show _ = _
                        rw [← List.append_assoc, List.length_append, HE.out.1]; rfl
                      clear hinv4 Hrows3 hbel3 hbel4
                      go_wp2_with fail
                      go_loopg [22] (N - (p + 1)) (fun gk v wx => ∃ t : Nat, v = .int .i64 t ∧ t ≤ N ∧ gk = N - t ∧ Hid (Colons.sb C (N - t) t = p') ∧ wx = w4)
                      case atStart => exact ⟨p + 1, by go_num, hpl1, rfl, Hp'.out, rfl⟩
                      case round =>
                        obtain ⟨t, rfl, htN, rfl, Ht, rfl⟩ := hrel
                        by_cases htl : t < N
                        · have hti : (t : Int) < (N : Int) := by omega
                          have hcellt := HC4.out t htl
                          have e1 : N - t = N - (t + 1) + 1 := by omega
                          have hmeas2 : N - (t + 1) < N - t := by omega
                          cases hbl : Colons.blank (C t)
                          · have HT2 : Hid (t = p') := by
                              show _ = _
                              rw [← Ht.out, e1]
                              unfold Colons.sb
                              rw [if_neg (by rw [hbl]; simp)]
                            clear e1
                            go_wp2_with (go_at_call 35; refine (blank_any _ _).mono ?_; rintro e w' ⟨rfl, rfl⟩)
                            go_roundg (N - p')
                            case measure => exact hmeas
                            case rel => exact ⟨e11, e12, q' + 1, f11, f12, p', F ++ [(p - j + 1, b)], rfl, rfl, by rw [HT2.out], hp'N, hkp', rfl, HLn.out, HL.out, HRf.out, HBf.out⟩
                          · have HT2 : Hid (Colons.sb C (N - (t + 1)) (t + 1) = p') := by
                              show _ = _
                              rw [← Ht.out, e1]
                              conv => rhs; unfold Colons.sb
                              rw [if_pos hbl]
                            clear e1
                            go_wp2_with (go_at_call 35; refine (blank_any _ _).mono ?_; rintro e w' ⟨rfl, rfl⟩)
                            go_roundg (N - (t + 1))
                            case measure => exact hmeas2
                            case rel => exact ⟨t + 1, by go_num, htl, rfl, HT2, rfl⟩
                        · have HT2 : Hid (t = p') := by
                            show _ = _
                            rw [← Ht.out, show N - t = 0 by omega]; rfl
                          have hti : ¬ (t : Int) < (N : Int) := by omega
                          go_wp2_with fail
                          go_roundg (N - p')
                          case measure => exact hmeas
                          case rel => exact ⟨e11, e12, q' + 1, f11, f12, p', F ++ [(p - j + 1, b)], rfl, rfl, by rw [HT2.out], hp'N, hkp', rfl, HLn.out, HL.out, HRf.out, HBf.out⟩
    · have HF : Hid (out = R) := by
        show _ = _
        rw [← HS.out.2.2.2.2.1, Colons.goM_end _ _ _ _ _ _ (by omega)]
      have hji : ¬ (j : Int) < (N : Int) := by omega
      go_wp2_with fail
      go_ret
      refine ⟨a13, o, c13, rfl, ?_, by rw [← HF.out]; exact HS.out.2.2.1, (Hbel1.out).trans ((HS.out.2.2.2.2.2.2).mono (by omega))⟩
      rw [← HF.out]
      have h := Inv.at (A := [_, _, _, _, _]) HS.out.2.2.2.2.2.1
      exact owned_base h (by omega)
end Go.Proofs.Qxb6601028a.Units
