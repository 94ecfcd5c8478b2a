import Derived.Test.Qxb6601028aUnitsWalks2
import Derived.Deep.CutBlock
namespace Go.Proofs.Qxb6601028a.Units
open Go.RowKit RowsKit

theorem Try.info3 : (Try.prog.info? 3).map (fun i => (i.zero, i.size, i.bytes)) = some (some (.int .i64 0), 1, 8) := by kernel_rfl
theorem Try.info4 : (Try.prog.info? 4).map (fun i => (i.zero, i.size, i.bytes)) = some (some (.bool false), 1, 1) := by kernel_rfl
theorem Try.info49 : (Try.prog.info? 49).map (fun i => (i.zero, i.size, i.bytes)) = some (some (.agg #[.int .i64 0, .bool false]), 2, 16) := by kernel_rfl

def flat (S : List (Nat × Bool)) : List Value := S.flatMap fun e => [.int .i64 e.1, .bool e.2]
def offs (st wd : Nat) (out : List Nat) : List Value := out.map fun k => .int .i64 ((st + wd * k : Nat) : Int)

theorem flat_len (S : List (Nat × Bool)) : (flat S).length = S.length * 2 := by
  induction S with
  | nil => rfl
  | cons e S ih => simp only [flat, List.flatMap_cons, List.length_append, List.length_cons, List.length_nil] at ih ⊢; omega
theorem flat_snoc (S : List (Nat × Bool)) (e : Nat × Bool) : flat (S ++ [e]) = flat S ++ [.int .i64 e.1, .bool e.2] := by simp [flat]

def rowS (ao : Option Addr) (m c : Nat) (S : List (Nat × Bool)) : Row := ⟨49, 2, ao, m, c, flat S⟩
def rowO (st wd : Nat) (ao : Option Addr) (m c : Nat) (out : List Nat) : Row := ⟨3, 1, ao, m, c, offs st wd out⟩

theorem ents_len (X : Nat → Int) (n j f p : Nat) : (Colons.ents X n j f p).length ≤ f + 1 := by
  induction f generalizing p with
  | zero => simp [Colons.ents]
  | succ f ih =>
    unfold Colons.ents
    split
    · have := ih (Colons.sb X (n - (p + 1)) (p + 1)); simp; omega
    · simp

def big : Nat := 65540
theorem big_up {m j j' : Nat} (h : m ≤ j * big) (h2 : j ≤ j') : m ≤ j' * big := Nat.le_trans h (Nat.mul_le_mul_right _ h2)
theorem big_add {m x j j' : Nat} (h : m ≤ j * big) (h2 : j < j') (hx : x ≤ 65537) : m + x ≤ j' * big := by
  have h3 : (j + 1) * big ≤ j' * big := Nat.mul_le_mul_right _ h2
  rw [Nat.add_mul, Nat.one_mul] at h3
  have h4 : x ≤ big := by unfold big; omega
  omega
theorem big_fits {m j : Nat} (h : m ≤ j * big) (hj : j ≤ 65540) : m ≤ 4295491600 := by
  have h3 : j * big ≤ 65540 * big := Nat.mul_le_mul_right _ hj
  have h4 : 65540 * big = 4295491600 := by decide +kernel
  omega

theorem Text.leN {n st wd hi N M : Nat} {B A : Nat → Int} (T : Text n st wd hi N M B A) {k : Nat} (h : k < M) : k ≤ N := by
  have h1 := (T.more k).1 h
  have h2 := T.past
  have h3 := T.wd_le
  by_cases hk : k ≤ N
  · exact hk
  · have : wd * (N + 1) ≤ wd * k := Nat.mul_le_mul_left _ (by omega)
    rw [Nat.mul_add, Nat.mul_one] at this
    omega
theorem Text.off {n st wd hi N M : Nat} {B A : Nat → Int} (T : Text n st wd hi N M B A) {k : Nat} (h : k ≤ N) : st + wd * k ≤ n := by
  have := T.few; have hm : wd * k ≤ wd * N := Nat.mul_le_mul_left _ h; omega

theorem flat_get0 {S : List (Nat × Bool)} {e : Nat × Bool} {m : Nat} (h : S.length = m) : (flat (S ++ [e]))[m * 2]? = some (.int .i64 e.1) := by
  rw [flat_snoc, List.getElem?_append_right (by rw [flat_len, h]; omega), flat_len, h, Nat.sub_self]; rfl
theorem flat_get1 {S : List (Nat × Bool)} {e : Nat × Bool} {m : Nat} (h : S.length = m) : (flat (S ++ [e]))[m * 2 + 1]? = some (.bool e.2) := by
  rw [flat_snoc, List.getElem?_append_right (by rw [flat_len, h]; omega), flat_len, h, show m * 2 + 1 - m * 2 = 1 by omega]; rfl
theorem flat_take {S : List (Nat × Bool)} {e : Nat × Bool} {m : Nat} (h : S.length = m) : (flat (S ++ [e])).take (m * 2) = flat S := by
  rw [flat_snoc, ← h, ← flat_len]; exact List.take_left
theorem Text.M_le {n st wd hi N M : Nat} {B A : Nat → Int} (T : Text n st wd hi N M B A) : M ≤ n := by
  by_cases h : M ≤ n
  · exact h
  · have h1 := (T.more n).1 (by omega)
    have hm : 1 * n ≤ wd * n := Nat.mul_le_mul_right _ T.wd_le.1
    omega
theorem owned_cap {w : World} {base : Nat} {r : Row} (h : r.owned w base) : r.n ≤ r.cap := by
  rcases h.2 with ⟨h1, h2⟩ | ⟨g, cap, cur, h1, h2, h3, h4, _⟩
  · simp only [Value.slice.injEq] at h1; omega
  · simp only [Value.slice.injEq, true_and] at h1; omega
theorem lastIs_snoc (S : List (Nat × Bool)) (e : Nat × Bool) (col : Nat) : Colons.lastIs (S ++ [e]) col = (e == (col, true)) := by
  unfold Colons.lastIs
  rw [List.getLast?_append]
  rfl
theorem offs_snoc {wx : World} {base st wd m k a : Nat} {ao : Option Addr} {c : Nat} {out : List Nat} {rs : List Row} (h : a = st + wd * k) (hi : Inv wx base (rs ++ ⟨3, 1, ao, m, c, offs st wd out ++ [.int .i64 (a : Int)]⟩ :: [])) : Inv wx base (rs ++ [rowO st wd ao m c (out ++ [k])]) := by
  have e : offs st wd (out ++ [k]) = offs st wd out ++ [.int .i64 (a : Int)] := by rw [h]; simp [offs]
  unfold rowO
  rw [e]; exact hi
theorem ents_fuel {X : Nat → Int} {N j : Nat} (hz : ∀ t, N ≤ t → Colons.mark (X t) = false) (f : Nat) : ∀ f' p, N - p ≤ f → N - p ≤ f' → Colons.ents X N j f p = Colons.ents X N j f' p := by
  induction f with
  | zero =>
    intro f' p h1 h2
    cases f' with
    | zero => rfl
    | succ f' => unfold Colons.ents; rw [hz p (by omega)]; rfl
  | succ f ih =>
    intro f' p h1 h2
    cases f' with
    | zero => unfold Colons.ents; rw [hz p (by omega)]; rfl
    | succ f' =>
      unfold Colons.ents
      have hg := Colons.sb_ge X (N - (p + 1)) (p + 1)
      rw [ih f' (Colons.sb X (N - (p + 1)) (p + 1)) (by omega) (by omega)]
theorem ents_mark {X : Nat → Int} {N j p p' : Nat} (hz : ∀ t, N ≤ t → Colons.mark (X t) = false) (hm : Colons.mark (X p) = true) (hp : Colons.sb X (N - (p + 1)) (p + 1) = p') :
    Colons.ents X N j (N - p) p = (p - j + 1, X p == 63) :: Colons.ents X N j (N - p') p' := by
  have hpN : p < N := by
    by_cases h : p < N
    · exact h
    · rw [hz p (by omega)] at hm; cases hm
  have hg := Colons.sb_ge X (N - (p + 1)) (p + 1)
  obtain ⟨f, hf⟩ : ∃ f, N - p = f + 1 := ⟨N - p - 1, by omega⟩
  rw [hf]
  conv => lhs; unfold Colons.ents
  rw [if_pos hm, hp, ents_fuel hz f (N - p') p' (by omega) (Nat.le_refl _)]
theorem ents_last {X : Nat → Int} {N j p : Nat} (hm : Colons.mark (X p) = false) : Colons.ents X N j (N - p) p = [(p - j + 1, X p == 63)] := by
  cases N - p with
  | zero => rfl
  | succ f => unfold Colons.ents; rw [hm]; rfl
theorem Text.nomark {n st wd hi N M : Nat} {B A : Nat → Int} (T : Text n st wd hi N M B A) : ∀ t, N ≤ t → Colons.mark (A t) = false := fun t ht => by rw [T.zero ht]; rfl
theorem rowS_snoc {wx : World} {base mS cS col p j : Nat} {q b : Bool} {aoS : Option Addr} {S E : List (Nat × Bool)} {r : Row} (h : Inv wx base ([] ++ ⟨49, 2, aoS, mS, cS, flat (S ++ E) ++ [.int .i64 (col : Int), .bool b]⟩ :: [r])) (hc : col = p - j + 1) (hb : q = b) :
    Inv wx base [rowS aoS mS cS (S ++ (E ++ [(p - j + 1, q)])), r] := by
  subst hb
  subst hc
  rw [← List.append_assoc]
  unfold rowS
  rw [flat_snoc]; exact h
theorem val_b {a b : Bool} (h : a = b) : Value.bool a = .bool b := by rw [h]
theorem val_i64 {a b : Int} (h : a = b) : Value.int .i64 a = .int .i64 b := by rw [h]
theorem col1 {a i d : Nat} (h : a = i + 1 * d) : (a : Int) - i + 1 = ((d + 1 : Nat) : Int) := by omega
theorem colx1 {x a d c t : Nat} (h : x = a + 1 * d) (hc : c + d = t) : (c : Int) + ((x : Int) - a) = (t : Int) := by omega
theorem colx2 {x a d c t : Nat} (h : x = a + 2 * d) (hc : c + d = t) : (c : Int) + ((x : Int) - a) / 2 = (t : Int) := by omega
theorem col2 {a i d : Nat} (h : a = i + 2 * d) : ((a : Int) - i) / 2 + 1 = ((d + 1 : Nat) : Int) := by omega

theorem pop_step {S : List (Nat × Bool)} {e : Nat × Bool} {col : Nat} {r : List (Nat × Bool)} (h : Colons.pop (S ++ [e]) col = r) (hc : col < e.1) : Colons.pop S col = r := by rw [← h, Colons.pop_snoc, if_pos hc]
theorem pop_stop {S : List (Nat × Bool)} {e : Nat × Bool} {col : Nat} {r : List (Nat × Bool)} (h : Colons.pop (S ++ [e]) col = r) (hc : ¬ col < e.1) : S ++ [e] = r := by rw [← h, Colons.pop_snoc, if_neg hc]
theorem snoc_of_len {α : Type} {S : List α} {m : Nat} (h : S.length = m + 1) : ∃ (S' : List α) (e : α), S = S' ++ [e] ∧ S'.length = m := by
  have hne : S ≠ [] := by intro h0; rw [h0] at h; simp at h
  exact ⟨S.dropLast, S.getLast hne, (List.dropLast_concat_getLast hne).symm, by rw [List.length_dropLast]; omega⟩

/-- a line without content -/
theorem goC_skip {A : Nat → Int} {N M gk j k : Nat} {S : List (Nat × Bool)} {out r : List Nat} (hj : j < M) (hg : M ≤ gk + j) (hk : Colons.sb A (N - j) j = k) (hs : M ≤ k ∨ Colons.skipc (A k) = true) (h : Colons.goC A N M gk j S out = r) :
    ∃ gk', gk' < gk ∧ M ≤ gk' + Colons.nl A (M - j) j ∧ Colons.goC A N M gk' (Colons.nl A (M - j) j) S out = r := by
  obtain ⟨gk, rfl⟩ : ∃ x, gk = x + 1 := ⟨gk - 1, by omega⟩
  have hn : j < Colons.nl A (M - j) j := by
    have := Colons.nl_gt A (M - j - 1) j
    rwa [show M - j - 1 + 1 = M - j by omega] at this
  refine ⟨gk, by omega, by omega, ?_⟩
  rw [← h]
  conv => rhs; unfold Colons.goC
  rw [if_pos hj, hk, if_pos hs]

/-- a line with content -/
theorem goC_line {A : Nat → Int} {N M gk j k : Nat} {S : List (Nat × Bool)} {out r : List Nat} (hj : j < M) (hg : M ≤ gk + j) (hk : Colons.sb A (N - j) j = k) (hs : ¬ (M ≤ k ∨ Colons.skipc (A k) = true)) (h : Colons.goC A N M gk j S out = r) :
    ∃ gk', gk' < gk ∧ M ≤ gk' + Colons.nl A (M - j) j ∧ Colons.goC A N M gk' (Colons.nl A (M - j) j) (Colons.pop S (k - j + 1) ++ Colons.ents A N j (N - k) k)
      (if A k == 58 && !Colons.lastIs (Colons.pop S (k - j + 1)) (k - j + 1) then out ++ [k] else out) = r := by
  obtain ⟨gk, rfl⟩ : ∃ x, gk = x + 1 := ⟨gk - 1, by omega⟩
  have hn : j < Colons.nl A (M - j) j := by
    have := Colons.nl_gt A (M - j - 1) j
    rwa [show M - j - 1 + 1 = M - j by omega] at this
  refine ⟨gk, by omega, by omega, ?_⟩
  rw [← h]
  conv => rhs; unfold Colons.goC
  rw [if_pos hj, hk, if_neg hs]

set_option maxRecDepth 100000 in
set_option maxHeartbeats 4000000 in
theorem colons_any (g n st wd hi N M : Nat) (B A : Nat → Int) (w : World) (T : Text n st wd hi N M B A) (hB : Src w g n B) (hg : g < w.heap.size) :
    Calls Try.prog 32 #[.agg #[.slice (some ⟨g, 0, none⟩) n n, .int .i64 st, .int .i64 wd, .int .i64 hi]] w fun e w' => ∃ ao m c, e = .returned (.slice ao m c) ∧ Row.owned w' (w.heap.size + 1) (rowO st wd ao m c (Colons.goC A N M M 0 [] [])) ∧ (Colons.goC A N M M 0 [] []).length = m ∧ Below w.heap.size w w' := by
  have hn := T.small
  have hwd := T.wd_le
  have hst := T.st3
  obtain ⟨i3, hi3, hz30, hz31, hz32⟩ := info_parts Try.info3
  obtain ⟨i49, hi49, hz490, hz491, hz492⟩ := info_parts Try.info49
  go_enter Try.func32, Try.ntmps32
  go_wp2_with fail
  go_loopg [3, 4, 5] M (fun gk v3 v4 v5 wr => ∃ (ao1 ao2 : Option Addr) (m1 c1 m2 c2 i j : Nat) (S : List (Nat × Bool)) (out : List Nat), v3 = .slice ao1 m1 c1 ∧ v4 = .slice ao2 m2 c2 ∧ v5 = .int .i64 i ∧
      j ≤ M ∧ m1 ≤ j * big ∧ m2 ≤ j ∧ Hid (i = st + wd * j ∧ S.length = m1 ∧ out.length = m2 ∧ M ≤ gk + j ∧ Colons.goC A N M gk j S out = Colons.goC A N M M 0 [] [] ∧
      Inv wr (w.heap.size + 1) [rowS ao1 m1 c1 S, rowO st wd ao2 m2 c2 out] ∧ Box w g n st wd hi wr))
  case atStart => exact ⟨none, none, 0, 0, 0, 0, st, 0, [], [], rfl, rfl, rfl, Nat.zero_le _, Nat.zero_le _, Nat.zero_le _, by simp, rfl, rfl, by omega, rfl, inv_nils _ _ [(49, 2), (3, 1)], Below.refl _ _⟩
  case round =>
    obtain ⟨ao1, ao2, m1, c1, m2, c2, i, j, S, out, rfl, rfl, rfl, hj, hm1, hm2, HR⟩ := hrel
    have hMn := T.M_le
    have hm1b : m1 ≤ 4295491600 := big_fits hm1 (by omega)
    obtain ⟨hij, hS, hO, hgk, hgo, hinv, hbx⟩ := HR.out
    have Hij : Hid (i = st + wd * j) := hij
    have HS : Hid (S.length = m1 ∧ out.length = m2 ∧ M ≤ gk + j ∧ Colons.goC A N M gk j S out = Colons.goC A N M M 0 [] []) := ⟨hS, hO, hgk, hgo⟩
    have Hinv : Hid (Inv wr (w.heap.size + 1) [rowS ao1 m1 c1 S, rowO st wd ao2 m2 c2 out]) := hinv
    have Hbx : Hid (Box w g n st wd hi wr) := hbx
    clear HR hij hS hO hgk hgo hinv hbx
    obtain ⟨hc0, hc1, hc2, hc3⟩ := Hbx.out.cells
    by_cases hjM : j < M
    · have hjN := T.leN hjM
      have hin : i < n := by have := (T.more j).1 hjM; have := Hij.out; omega
      go_wp2_with fail
      refine (skip_any g n st wd hi N M _ i j B A _ T (by exact Hbx.out.src hB hg) (by have := Hbx.out.size; omega) rfl Hij hjN).mono ?_
      rintro e w1 ⟨at0, rfl, Hat, hb1⟩
      have hkj := Colons.sb_ge A (N - j) j
      have hkN := Colons.sb_le A (N - j) j
      generalize hk : Colons.sb A (N - j) j = k at *
      have Hk : Hid (Colons.sb A (N - j) j = k) := hk
      clear hk
      have Hinv1 : Hid (Inv w1 (w.heap.size + 1) [rowS ao1 m1 c1 S, rowO st wd ao2 m2 c2 out]) := Hinv.out.keep hb1
      have Hbx1 : Hid (Box w g n st wd hi w1) := Hbx.out.next hb1
      clear hc0 hc1 hc2 hc3 hb1 Hinv Hbx
      obtain ⟨hc0, hc1, hc2, hc3⟩ := Hbx1.out.cells
      have hat : at0 ≤ n := by have := Hat.out; have := T.off (k := k) (by omega); omega
      have HU : Hid (A k = asc n wd hi B at0) := by show _ = _; rw [T.units, Hat.out]
      go_wp2_with fail
      refine (ascii_at g n st wd hi _ at0 B _ rfl (by omega) (by omega) T.width (by exact Hbx1.out.src hB hg)).mono ?_
      rintro e w2 ⟨rfl, hb2⟩
      rw [← HU.out]
      have Hinv2 : Hid (Inv w2 (w.heap.size + 1) [rowS ao1 m1 c1 S, rowO st wd ao2 m2 c2 out]) := Hinv1.out.keep hb2
      have Hbx2 : Hid (Box w g n st wd hi w2) := Hbx1.out.next hb2
      clear hc0 hc1 hc2 hc3 hb2 Hinv1 Hbx1
      obtain ⟨hc0, hc1, hc2, hc3⟩ := Hbx2.out.cells
      by_cases hskip : M ≤ k ∨ Colons.skipc (A k) = true
      · have hcase : n ≤ at0 ∨ (¬ n ≤ at0 ∧ (A k = 10 ∨ A k = 13 ∨ A k = 35)) := by
          by_cases h : n ≤ at0
          · exact Or.inl h
          · refine Or.inr ⟨h, ?_⟩
            rcases hskip with h1 | h1
            · exact absurd ((T.more k).2 (by have := Hat.out; omega)) (by omega)
            · simpa [Colons.skipc, or_assoc] using h1
        obtain ⟨gk', hg1, hg2, hg3⟩ := goC_skip hjM HS.out.2.2.1 Hk.out hskip HS.out.2.2.2
        have HG : Hid (M ≤ gk' + Colons.nl A (M - j) j ∧ Colons.goC A N M gk' (Colons.nl A (M - j) j) S out = Colons.goC A N M M 0 [] []) := ⟨hg2, hg3⟩
        have hnl1 := Colons.nl_le A (M - j) j
        have hnl2 : j < Colons.nl A (M - j) j := by
          have := Colons.nl_gt A (M - j - 1) j
          rwa [show M - j - 1 + 1 = M - j by omega] at this
        clear hg2 hg3 hskip
        generalize hnl : Colons.nl A (M - j) j = j' at *
        have Hnl : Hid _ := hnl
        clear hnl
        have hj' : j' ≤ M := by omega
        have hm1' : m1 ≤ j' * big := big_up hm1 (by omega)
        have hm2' : m2 ≤ j' := by omega
        have hgw : g < w2.heap.size := by have := Hbx2.out.size; omega
        rcases hcase with h1 | ⟨h1, h2 | h2 | h2⟩
        all_goals
          -- [[
          go_wp2_with fail
          refine (next_any g n st wd hi N M _ i j B A _ T (by exact Hbx2.out.src hB hg) hgw rfl Hij hj).mono ?_
          rintro e w3 ⟨i', rfl, Hi', hb3⟩
          go_wp2_with fail
          go_roundg gk'
          case measure => exact hg1
          case rel => exact ⟨ao1, ao2, m1, c1, m2, c2, i', j', S, out, rfl, rfl, rfl, hj', hm1', hm2', by rw [← Hnl.out]; exact Hi'.out, HS.out.1, HS.out.2.1, HG.out.1, HG.out.2, Hinv2.out.keep hb3, Hbx2.out.next hb3⟩
          -- ]]
      · have hkM : k < M := by omega
        have hatn : ¬ n ≤ at0 := by have := (T.more k).1 hkM; have := Hat.out; omega
        have hA10 : (A k == 10) = false := by simp [Colons.skipc] at hskip; simp [hskip]
        have hA13 : (A k == 13) = false := by simp [Colons.skipc] at hskip; simp [hskip]
        have hA35 : (A k == 35) = false := by simp [Colons.skipc] at hskip; simp [hskip]
        have Hskip : Hid (¬ (M ≤ k ∨ Colons.skipc (A k) = true)) := hskip
        clear hskip
        go_upto_region 9 with fail
        go_cut [8] (fun v8 wx => v8 = .int .i64 ((k - j + 1 : Nat) : Int) ∧ wx = w2)
        case first =>
          -- [[
          have hd : Hid (at0 = i + wd * (k - j)) := by
            show _ = _
            rw [Hat.out, Hij.out, Nat.add_assoc, ← Nat.mul_add, show j + (k - j) = k by omega]
          have h12 : wd = 1 ∨ wd = 2 := by omega
          have hle : (i : Int) ≤ (at0 : Int) := by have := hd.out; omega
          rcases h12 with rfl | rfl
          · go_wp2_with fail
            go_meet
            case rel => exact ⟨val_i64 (col1 hd.out), rfl⟩
          · go_wp2_with fail
            go_meet
            case rel => exact ⟨val_i64 (col2 hd.out), rfl⟩
          -- ]]
        case rest =>
          obtain ⟨rfl, rfl⟩ := hcut
          have hcol : k - j + 1 ≤ 65540 := by have := T.off (k := k) (by omega); have := Hat.out; have hm : 1 * k ≤ wd * k := Nat.mul_le_mul_right _ hwd.1; omega
          generalize hcg : k - j + 1 = col at *
          have Hcol : Hid (k - j + 1 = col) := hcg
          clear hcg
          go_upto_block 2 with fail
          go_cut [3] (fun v3 wx => ∃ (m : Nat) (S1 : List (Nat × Bool)), v3 = .slice ao1 m c1 ∧ m ≤ m1 ∧ Hid (S1 = Colons.pop S col ∧ S1.length = m ∧ Inv wc (w.heap.size + 1) [rowS ao1 m c1 S1, rowO st wd ao2 m2 c2 out]) ∧ wx = wc)
          case first =>
            -- [[
            go_wp2_with fail
            go_loopg [3] m1 (fun gk v3 wx => ∃ (m : Nat) (S1 : List (Nat × Bool)), v3 = .slice ao1 m c1 ∧ m ≤ m1 ∧ gk = m ∧ Hid (Colons.pop S1 col = Colons.pop S col ∧ S1.length = m ∧ Inv wc (w.heap.size + 1) [rowS ao1 m c1 S1, rowO st wd ao2 m2 c2 out]) ∧ wx = wc)
            case atStart => exact ⟨m1, S, rfl, Nat.le_refl _, rfl, ⟨rfl, HS.out.1, Hinv2.out⟩, rfl⟩
            case round =>
              obtain ⟨m, S1, rfl, hm, rfl, HP, rfl⟩ := hrel
              cases gk with
              | zero =>
                have HP0 : Hid (S1 = Colons.pop S col) := by
                  show _ = _
                  have := List.eq_nil_of_length_eq_zero HP.out.2.1
                  rw [← HP.out.1, this]; rfl
                go_wp2_with fail
                go_meet
                case rel => exact ⟨0, S1, rfl, hm, ⟨HP0.out, HP.out.2⟩, rfl⟩
              | succ m =>
                obtain ⟨S2, e, hS2, hl2⟩ := snoc_of_len HP.out.2.1
                have hown : Row.owned wr (w.heap.size + 1) (rowS ao1 (m + 1) c1 S1) := Inv.at (A := []) HP.out.2.2
                obtain ⟨g1, hao, hg1, _⟩ := owned_addr hown (by show 0 < m + 1; omega)
                have hao' : ao1 = some ⟨g1, 0, none⟩ := hao
                subst hao'
                have hcap : m + 1 ≤ c1 := owned_cap hown
                have hcell : wr.cell? ⟨g1, m * 2, none⟩ = some (.int .i64 e.1) := (owned_cell hown (m * 2) (by show m * 2 < (m + 1) * 2; omega)).trans (by rw [hS2]; exact flat_get0 hl2)
                by_cases hce : col < e.1
                · have hce' : (col : Int) < (e.1 : Int) := by omega
                  have HP2 : Hid (Colons.pop S2 col = Colons.pop S col ∧ S2.length = m ∧ Inv wr (w.heap.size + 1) [rowS (some ⟨g1, 0, none⟩) m c1 S2, rowO st wd ao2 m2 c2 out]) := by
                    refine ⟨pop_step (hS2 ▸ HP.out.1) hce, hl2, ?_⟩
                    have h := Inv.cut (A := []) HP.out.2.2 m (by omega)
                    rw [hS2, flat_take hl2] at h
                    exact h
                  have hm' : m ≤ m1 := by omega
                  clear HP hS2 hl2
                  go_wp2_with fail
                  go_roundg m
                  case measure => exact Nat.lt_succ_self _
                  case rel => exact ⟨m, S2, by go_num, hm', rfl, HP2, rfl⟩
                · have hce' : ¬ (col : Int) < (e.1 : Int) := by omega
                  have HP2 : Hid (S1 = Colons.pop S col) := by show _ = _; rw [hS2]; exact pop_stop (hS2 ▸ HP.out.1) hce
                  clear hS2 hl2
                  go_wp2_with fail
                  go_meet
                  case rel => exact ⟨m + 1, S1, rfl, hm, ⟨HP2.out, HP.out.2⟩, rfl⟩
            -- ]]
          case rest =>
            obtain ⟨m, S1, rfl, hm, HP, rfl⟩ := hcut
            go_upto_region 13 with fail
            go_cut [9, 87] (fun _ v wx => v = .bool (A k == 58 && !Colons.lastIs S1 col) ∧ wx = wc)
            case first =>
              -- [[
              cases hA58 : A k == 58
              · go_wp2_with fail
                go_meet
                case rel => exact ⟨val_b (by rw [hA58]; rfl), rfl⟩
              · cases m with
                | zero =>
                  have HE : Hid (Colons.lastIs S1 col = false) := by
                    have := List.eq_nil_of_length_eq_zero HP.out.2.1
                    rw [this]; rfl
                  go_wp2_with fail
                  go_meet
                  case rel => exact ⟨val_b (by rw [HE.out, hA58]; rfl), rfl⟩
                | succ m =>
                  obtain ⟨S2, e, hS2, hl2⟩ := snoc_of_len HP.out.2.1
                  have hown : Row.owned wc (w.heap.size + 1) (rowS ao1 (m + 1) c1 S1) := Inv.at (A := []) HP.out.2.2
                  obtain ⟨g1, hao, hg1, _⟩ := owned_addr hown (by show 0 < m + 1; omega)
                  have hao' : ao1 = some ⟨g1, 0, none⟩ := hao
                  subst hao'
                  have hcell : wc.cell? ⟨g1, m * 2, none⟩ = some (.int .i64 e.1) := (owned_cell hown (m * 2) (by show m * 2 < (m + 1) * 2; omega)).trans (by rw [hS2]; exact flat_get0 hl2)
                  have hcell1 : wc.cell? ⟨g1, m * 2 + 1, none⟩ = some (.bool e.2) := (owned_cell hown (m * 2 + 1) (by show m * 2 + 1 < (m + 1) * 2; omega)).trans (by rw [hS2]; exact flat_get1 hl2)
                  have HE : Hid (Colons.lastIs S1 col = (e == (col, true))) := by rw [hS2]; exact lastIs_snoc S2 e col
                  clear hS2 hl2
                  obtain ⟨e1, e2⟩ := e
                  simp only at hcell hcell1
                  by_cases he1 : e1 = col
                  · subst he1
                    cases e2 with
                    | false =>
                      go_wp2_with fail
                      go_meet
                      case rel => exact ⟨val_b (by rw [HE.out, hA58]; simp), rfl⟩
                    | true =>
                      go_wp2_with fail
                      go_meet
                      case rel => exact ⟨val_b (by rw [HE.out, hA58]; simp), rfl⟩
                  · have he1' : ((e1 : Int) == (col : Int)) = false := by rw [beq_eq_false_iff_ne]; omega
                    have HE2 : Hid (Colons.lastIs S1 col = false) := by
                      show _ = _
                      rw [HE.out, beq_eq_false_iff_ne]
                      intro h
                      exact he1 (Prod.mk.inj h).1
                    go_wp2_with fail
                    go_meet
                    case rel => exact ⟨val_b (by rw [HE2.out, hA58]; simp), rfl⟩
              -- ]]
            case rest =>
              obtain ⟨rfl, rfl⟩ := hcut
              go_upto_if 87 with fail
              obtain ⟨out', hout'⟩ : ∃ o, o = if A k == 58 && !Colons.lastIs S1 col then out ++ [k] else out := ⟨_, rfl⟩
              have Hout : Hid _ := hout'
              clear hout'
              go_cut [4, 87] (fun v4 _ wx => ∃ (ao : Option Addr) (m3 c3 : Nat), v4 = .slice ao m3 c3 ∧ m3 ≤ j + 1 ∧ Hid (out'.length = m3 ∧ Inv wx (w.heap.size + 1) [rowS ao1 m c1 S1, rowO st wd ao m3 c3 out'] ∧ Box w g n st wd hi wx))
              case first =>
                -- [[
                cases hb : (A k == 58 && !Colons.lastIs S1 col)
                · have HO : Hid (out' = out) := by show _ = _; rw [Hout.out, hb]; simp
                  go_wp2_with fail
                  go_meet
                  case rel => exact ⟨ao2, m2, c2, rfl, by omega, by rw [HO.out]; exact HS.out.2.1, by rw [HO.out]; exact HP.out.2.2, Hbx2.out⟩
                · have HO : Hid (out' = out ++ [k]) := by show _ = _; rw [Hout.out, hb]; simp
                  have hbase := Hbx2.out.size
                  have hx1 : m2 + 1 ≤ maxLen := by unfold maxLen; omega
                  have hx2 : (m2 + 1) * 8 ≤ 140737488355328 := by omega
                  have hm2' : m2 + 1 ≤ j + 1 := by omega
                  have hbase' : w.heap.size + 1 ≤ (wc.alloc (.cells #[.int .i64 at0] 3)).heap.size := by simp; omega
                  have Hinv3 : Inv (wc.alloc (.cells #[.int .i64 at0] 3)) (w.heap.size + 1) ([rowS ao1 m c1 S1] ++ ⟨3, 1, ao2, m2, c2, offs st wd out⟩ :: []) := Inv.alloc HP.out.2.2 _
                  have HB3 : Hid (Box w g n st wd hi (wc.alloc (.cells #[.int .i64 at0] 3))) := Hbx2.out.next (below1 _)
                  go_wp2_with (at_builtin; refine wpList_append_row _ rfl (.tmp 88) (.tmp 90) 27 rfl (w.heap.size + 1) 3 i3 (.int .i64 0) 1 8 Try.underlying27 hi3 hz30 hz31 hz32 rfl ao2 m2 c2 (offs st wd out) [rowS ao1 m c1 S1] [] rfl Hinv3 ⟨wc.heap.size, 0, none⟩ 1 1 [.int .i64 at0] rfl rfl (cell_one_new _ _ _) (ints_oneCell .i64 [(at0 : Int)]) (Nat.lt_succ_self 0) hx1 hx2 hbase' ?_)
                  intro ao' cap' w3 hinv3 hbel3
                  go_wp2_with fail
                  go_meet
                  case rel => exact ⟨ao', m2 + 1, cap', rfl, hm2', by rw [HO.out, List.length_append, HS.out.2.1]; rfl, by rw [HO.out]; exact offs_snoc (rs := [rowS ao1 m c1 S1]) Hat.out hinv3, Below.trans HB3.out hbel3⟩
                -- ]]
              case rest =>
                obtain ⟨ao, m3, c3, rfl, hm3, HO⟩ := hcut
                obtain ⟨gk', hg1, hg2, hg3⟩ := goC_line hjM HS.out.2.2.1 Hk.out Hskip.out HS.out.2.2.2
                have HG : Hid (M ≤ gk' + Colons.nl A (M - j) j ∧ Colons.goC A N M gk' (Colons.nl A (M - j) j) (S1 ++ Colons.ents A N j (N - k) k) out' = Colons.goC A N M M 0 [] []) := by
                  refine ⟨hg2, ?_⟩
                  rw [Hcol.out, ← HP.out.1, ← Hout.out] at hg3
                  exact hg3
                clear hg2 hg3
                have hnl1 := Colons.nl_le A (M - j) j
                have hnl2 : j < Colons.nl A (M - j) j := by
                  have := Colons.nl_gt A (M - j - 1) j
                  rwa [show M - j - 1 + 1 = M - j by omega] at this
                generalize hnl : Colons.nl A (M - j) j = j' at *
                have Hnl : Hid _ := hnl
                clear hnl
                have hj' : j' ≤ M := by omega
                have hm3' : m3 ≤ j' := by omega
                go_wp2_with fail
                go_loopg [3, 6, 7, 8, 10] (N - k) (fun gk2 v3 v6 v7 v8 _ wx => ∃ (aoS : Option Addr) (mS cS at1 p col1 : Nat) (E : List (Nat × Bool)), v3 = .slice aoS mS cS ∧ v6 = .int .i64 at1 ∧ v7 = .int .u8 (A p) ∧ v8 = .int .i64 col1 ∧ p ≤ N ∧ k ≤ p ∧ gk2 = N - p ∧ col1 ≤ 65540 ∧
                  Hid (at1 = st + wd * p ∧ col1 = p - j + 1 ∧ S1.length + E.length = mS ∧ E ++ Colons.ents A N j (N - p) p = Colons.ents A N j (N - k) k ∧ Inv wx (w.heap.size + 1) [rowS aoS mS cS (S1 ++ E), rowO st wd ao m3 c3 out'] ∧ Box w g n st wd hi wx))
                case atStart => exact ⟨ao1, m, c1, at0, k, col, [], rfl, rfl, rfl, rfl, by omega, Nat.le_refl _, rfl, hcol, Hat.out, Hcol.out.symm, HP.out.2.1, rfl, by rw [List.append_nil]; exact HO.out.2.1, HO.out.2.2⟩
                case round =>
                  obtain ⟨aoS, mS, cS, at1, p, col1, E, rfl, rfl, rfl, rfl, hpN, hkp, rfl, hcol1, HE⟩ := hrel
                  have hmS : mS ≤ m1 + 65537 := by
                    have h1 := HE.out.2.2.1
                    have h2 := congrArg List.length HE.out.2.2.2.1
                    rw [List.length_append] at h2
                    have h3 := ents_len A N j (N - k) k
                    have h4 := HP.out.2.1
                    have h5 := T.off (k := N) (Nat.le_refl _)
                    have hmW : 1 * N ≤ wd * N := Nat.mul_le_mul_right _ hwd.1
                    omega
                  have hbase := HE.out.2.2.2.2.2.size
                  have hx1 : mS + 1 ≤ maxLen := by unfold maxLen; omega
                  have hx2 : (mS + 1) * 16 ≤ 140737488355328 := by omega
                  have hat1 : at1 ≤ n := by have := HE.out.1; have := T.off hpN; omega
                  obtain ⟨b, hb⟩ : ∃ b, (A p == 63) = b := ⟨_, rfl⟩
                  have hbase' : w.heap.size + 1 ≤ (wr.alloc (.cells #[.int .i64 col1, .bool b] 49)).heap.size := by simp; omega
                  have Hinv4 : Inv (wr.alloc (.cells #[.int .i64 col1, .bool b] 49)) (w.heap.size + 1) ([] ++ ⟨49, 2, aoS, mS, cS, flat (S1 ++ E)⟩ :: [rowO st wd ao m3 c3 out']) := Inv.alloc HE.out.2.2.2.2.1 _
                  have HB4 : Hid (Box w g n st wd hi (wr.alloc (.cells #[.int .i64 col1, .bool b] 49))) := HE.out.2.2.2.2.2.next (below1 _)
                  cases hmk : Colons.mark (A p)
                  · have hA45 : (A p != 45) = true := by simp [Colons.mark] at hmk; simp [hmk]
                    have hA63 : (A p != 63) = true := by simp [Colons.mark] at hmk; simp [hmk]
                    have hA58 : (A p != 58) = true := by simp [Colons.mark] at hmk; simp [hmk]
                    have hbf : b = false := by rw [← hb]; simp [Colons.mark] at hmk; simp [hmk]
                    subst hbf
                    go_wp2_with (at_builtin; refine wpList_append_row _ rfl (.tmp 92) (.tmp 97) 45 rfl (w.heap.size + 1) 49 i49 (.agg #[.int .i64 0, .bool false]) 2 16 Try.underlying45 hi49 hz490 hz491 hz492 rfl aoS mS cS (flat (S1 ++ E)) [] [rowO st wd ao m3 c3 out'] rfl Hinv4 ⟨wr.heap.size, 0, none⟩ 1 1 [.int .i64 col1, .bool false] rfl rfl (cell_two_new _ _ _ _) (by intro u hu; simp at hu; rcases hu with rfl | rfl <;> rfl) (Nat.lt_succ_self 0) hx1 hx2 hbase' ?_)
                    intro ao' cap' w3 hinv3 hbel3
                    have HB5 : Hid (Box w g n st wd hi w3) := Below.trans HB4.out hbel3
                    have HL : Hid (E ++ [(p - j + 1, A p == 63)] = Colons.ents A N j (N - k) k) := by rw [← ents_last hmk]; exact HE.out.2.2.2.1
                    have HI5 : Hid (Inv w3 (w.heap.size + 1) [rowS ao' (mS + 1) cap' (S1 ++ Colons.ents A N j (N - k) k), rowO st wd ao m3 c3 out']) := by
                      rw [← HL.out]
                      exact rowS_snoc hinv3 HE.out.2.1 hb
                    have hmS' : Hid ((S1 ++ Colons.ents A N j (N - k) k).length = mS + 1) := by
                      rw [← HL.out, ← List.append_assoc, List.length_append, List.length_append, HE.out.2.2.1]; rfl
                    have hmS2 : mS + 1 ≤ j' * big := by
                      have h1 := hmS'.out
                      rw [List.length_append, HP.out.2.1] at h1
                      have h3 := ents_len A N j (N - k) k
                      have h5 := T.off (k := N) (Nat.le_refl _)
                      have hmW : 1 * N ≤ wd * N := Nat.mul_le_mul_right _ hwd.1
                      rw [← h1]
                      exact Nat.le_trans (Nat.add_le_add_right hm _) (big_add hm1 hnl2 (by omega))
                    have hgw : g < w3.heap.size := by have := HB5.out.size; omega
                    clear hinv3 hbel3 Hinv4 HB4 hbase' hc0 hc1 hc2 hc3
                    obtain ⟨hc0, hc1, hc2, hc3⟩ := HB5.out.cells
                    go_wp2_with fail
                    refine (next_any g n st wd hi N M _ i j B A _ T (by exact HB5.out.src hB hg) hgw rfl Hij hj).mono ?_
                    rintro e w4 ⟨i', rfl, Hi', hb4⟩
                    go_wp2_with fail
                    go_roundg gk'
                    case measure => exact hg1
                    case rel => exact ⟨ao', ao, mS + 1, cap', m3, c3, i', j', S1 ++ Colons.ents A N j (N - k) k, out', rfl, rfl, rfl, hj', hmS2, hm3', by rw [← Hnl.out]; exact Hi'.out, hmS'.out, HO.out.1, HG.out.1, HG.out.2, HI5.out.keep hb4, HB5.out.next hb4⟩
                  · have hpl : p < N := by
                      by_cases h : p < N
                      · exact h
                      · rw [T.nomark p (by omega)] at hmk; cases hmk
                    have hcase : (A p != 45) = false ∨ ((A p != 45) = true ∧ (A p != 63) = false) ∨ ((A p != 45) = true ∧ (A p != 63) = true ∧ (A p != 58) = false) := by
                      simp only [Colons.mark, Bool.or_eq_true, beq_iff_eq] at hmk
                      simp only [bne_eq_false_iff_eq, bne_iff_ne]
                      omega
                    have Hmk : Hid (Colons.mark (A p) = true) := hmk
                    have Hnx : Hid (at1 + wd = st + wd * (p + 1)) := by show _ = _; rw [HE.out.1, Nat.mul_add, Nat.mul_one, Nat.add_assoc]
                    clear hmk
                    have hge := Colons.sb_ge A (N - (p + 1)) (p + 1)
                    have hle := Colons.sb_le A (N - (p + 1)) (p + 1)
                    obtain ⟨p', hp'⟩ : ∃ x, Colons.sb A (N - (p + 1)) (p + 1) = x := ⟨_, rfl⟩
                    rw [hp'] at hge hle
                    have Hp' : Hid _ := hp'
                    clear hp'
                    have hp'N : p' ≤ N := by omega
                    have hkp' : k ≤ p' := by omega
                    have hmeas : N - p' < N - p := by omega
                    have hpl1 : p + 1 ≤ N := hpl
                    rcases hcase with h45 | ⟨h45, h63⟩ | ⟨h45, h63, h58⟩
                    all_goals
                      go_wp2_with (at_builtin; refine wpList_append_row _ rfl (.tmp 92) (.tmp 97) 45 rfl (w.heap.size + 1) 49 i49 (.agg #[.int .i64 0, .bool false]) 2 16 Try.underlying45 hi49 hz490 hz491 hz492 rfl aoS mS cS (flat (S1 ++ E)) [] [rowO st wd ao m3 c3 out'] rfl Hinv4 ⟨wr.heap.size, 0, none⟩ 1 1 [.int .i64 col1, .bool b] rfl rfl (cell_two_new _ _ _ _) (by intro u hu; simp at hu; rcases hu with rfl | rfl <;> rfl) (Nat.lt_succ_self 0) hx1 hx2 hbase' ?_)
                      intro ao' cap' w3 hinv3 hbel3
                      have HB5 : Hid (Box w g n st wd hi w3) := Below.trans HB4.out hbel3
                      have HL : Hid (E ++ [(p - j + 1, A p == 63)] ++ Colons.ents A N j (N - p') p' = Colons.ents A N j (N - k) k) := by
                        show _ = _
                        rw [← HE.out.2.2.2.1, ents_mark T.nomark Hmk.out Hp'.out]; simp
                      have HI5 : Hid (Inv w3 (w.heap.size + 1) [rowS ao' (mS + 1) cap' (S1 ++ (E ++ [(p - j + 1, A p == 63)])), rowO st wd ao m3 c3 out']) := rowS_snoc hinv3 HE.out.2.1 hb
                      have hgw : g < w3.heap.size := by have := HB5.out.size; omega
                      clear hinv3 hbel3 Hinv4 HB4 hbase' hc0 hc1 hc2 hc3
                      obtain ⟨hc0, hc1, hc2, hc3⟩ := HB5.out.cells
                      go_wp2_with fail
                      refine (skip_any g n st wd hi N M _ (at1 + wd) (p + 1) B A _ T (by exact HB5.out.src hB hg) hgw (by omega) Hnx hpl1).mono ?_
                      rintro e w4 ⟨nx, rfl, Hnx', hb4⟩
                      rw [Hp'.out] at Hnx'
                      have HI6 : Hid (Inv w4 (w.heap.size + 1) [rowS ao' (mS + 1) cap' (S1 ++ (E ++ [(p - j + 1, A p == 63)])), rowO st wd ao m3 c3 out']) := HI5.out.keep hb4
                      have HB6 : Hid (Box w g n st wd hi w4) := HB5.out.next hb4
                      clear hc0 hc1 hc2 hc3 hb4 HI5 HB5
                      obtain ⟨hc0, hc1, hc2, hc3⟩ := HB6.out.cells
                      have hnxn : nx ≤ n := by have := Hnx'.out; have := T.off hp'N; omega
                      go_upto_region 18 with fail
                      go_cut [8] (fun v8 wx => v8 = .int .i64 ((p' - j + 1 : Nat) : Int) ∧ wx = w4)
                      case first =>
                        have hd : Hid (nx = at1 + wd * (p' - p)) := by
                          show _ = _
                          rw [Hnx'.out, HE.out.1, Nat.add_assoc, ← Nat.mul_add, show p + (p' - p) = p' by omega]
                        have hcc : Hid (col1 + (p' - p) = p' - j + 1) := by have := HE.out.2.1; unfold Hid; omega
                        have h12 : wd = 1 ∨ wd = 2 := by omega
                        have hle2 : (at1 : Int) ≤ (nx : Int) := by have := hd.out; omega
                        rcases h12 with rfl | rfl
                        · go_wp2_with fail
                          go_meet
                          case rel => exact ⟨val_i64 (colx1 hd.out hcc.out), rfl⟩
                        · go_wp2_with fail
                          go_meet
                          case rel => exact ⟨val_i64 (colx2 hd.out hcc.out), rfl⟩
                      case rest =>
                        obtain ⟨rfl, rfl⟩ := hcut
                        have hcl2 : p' - j + 1 ≤ 65540 := by have := T.off hp'N; have := Hnx'.out; have hmW : 1 * p' ≤ wd * p' := Nat.mul_le_mul_right _ hwd.1; omega
                        have HU2 : Hid (A p' = asc n wd hi B nx) := by show _ = _; rw [T.units, Hnx'.out]
                        go_wp2_with fail
                        refine (ascii_at g n st wd hi _ nx B _ rfl (by omega) (by omega) T.width (by exact HB6.out.src hB hg)).mono ?_
                        rintro e w5 ⟨rfl, hb5⟩
                        rw [← HU2.out]
                        go_wp2_with fail
                        go_roundg (N - p')
                        case measure => exact hmeas
                        case rel => exact ⟨ao', mS + 1, cap', nx, p', p' - j + 1, E ++ [(p - j + 1, A p == 63)], rfl, rfl, rfl, rfl, hp'N, hkp', rfl, hcl2, Hnx'.out, rfl, by rw [List.length_append, ← Nat.add_assoc, HE.out.2.2.1]; rfl, HL.out, HI6.out.keep hb5, HB6.out.next hb5⟩
    · have hge : ¬ i < n := by intro h; rw [Hij.out] at h; exact hjM ((T.more j).2 h)
      have HF : Hid (out = Colons.goC A N M M 0 [] []) := by
        show _ = _
        rw [← HS.out.2.2.2, Colons.goC_end _ _ _ _ _ _ _ (by omega)]
      go_wp2_with fail
      go_ret
      exact ⟨ao2, m2, c2, rfl, by rw [← HF.out]; exact Inv.at (A := [rowS ao1 m1 c1 S]) Hinv.out, by rw [← HF.out]; exact HS.out.2.1, Hbx.out.old⟩
end Go.Proofs.Qxb6601028a.Units
