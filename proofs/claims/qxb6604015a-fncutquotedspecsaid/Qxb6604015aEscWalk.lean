import Derived.Test.Qxb6604015aCutWalk
import Derived.Deep.CutBlock
import Derived.Deep.DeepCutAuto
namespace Go.Proofs.Qxb6604015a
open Go.RowKit RowsKit

def rowY (ao : Option Addr) (n cap : Nat) (l : List UInt8) : Row := ⟨5, 1, ao, n, cap, Lib.byteCells l⟩

/-- 'append(out, c)' onto a row of bytes: what is appended lies in a block that was just laid -/
theorem app_byte (w0 : World) {ops : Array Oper} {rest : List Oper} {op : Oper} {a : Act} {Q : Exit → Act → World → Prop} (hgd : op.guard = none) (s x : Operand)
    (hop : op.op = .call { callee := .builtin .append, args := #[s, x], argTypes := #[26, 26] }) (base : Nat) (ao : Option Addr) (n cap : Nat) (l : List UInt8) (A B : List Row) (c : UInt8) (ci : Int) (hc : ci = (c.toNat : Int))
    (hs : a.eval s = .slice ao n cap) (hinv : Inv w0 base (A ++ rowY ao n cap l :: B)) (hx : a.eval x = .slice (some ⟨w0.heap.size, 0, none⟩) 1 1) (hn : n ≤ 5000000000) (hbase : base ≤ w0.heap.size)
    (h : ∀ ao' cap' w', Inv w' base (A ++ rowY ao' (n + 1) cap' (l ++ [c]) :: B) → Below base w0 w' → wpList Try.prog ops Q rest (a.put op.dst (.slice ao' (n + 1) cap')) w') :
    wpList Try.prog ops Q (op :: rest) a (w0.alloc (.cells #[.int .u8 ci] 5)) := by
  subst hc
  obtain ⟨i5, hi5, hz50, hz51, hz52⟩ := info_parts Try.info5
  refine wpList_append_row _ hgd s x 26 hop base 5 i5 (.int .u8 0) 1 1 Try.underlying26 hi5 hz50 hz51 hz52 rfl ao n cap (Lib.byteCells l) A B hs (hinv.alloc _) ⟨w0.heap.size, 0, none⟩ 1 1 [.int .u8 (c.toNat : Int)] hx rfl (cell_one_new _ _ _) (ints_oneCell .u8 [(c.toNat : Int)]) (Nat.lt_succ_self 0) (by unfold maxLen; omega) (by omega) (by simp; omega) ?_
  intro ao' cap' w' h1 h2
  refine h ao' cap' w' ?_ (((Below.refl base w0).alloc hbase _).trans h2)
  have e : rowY ao' (n + 1) cap' (l ++ [c]) = ⟨5, 1, ao', n + 1, cap', Lib.byteCells l ++ [.int .u8 (c.toNat : Int)]⟩ := by simp [rowY, Lib.byteCells]
  rw [e]; exact h1

theorem take_snoc (s : ByteArray) (k : Nat) (h : k < s.size) : s.data.toList.take (k + 1) = s.data.toList.take k ++ [s[k]] := by
  rw [List.take_succ_eq_append_getElem (by rw [len_list]; exact h)]; rfl

set_option maxRecDepth 100000 in
set_option maxHeartbeats 2000000 in
theorem esc_any (t : ByteArray) (all : Bool) (w : World) (ht : t.size ≤ 1048576) :
    Calls Try.prog 9 #[.string t, .bool all] w fun e w' => ∃ ao n cap, e = .returned (.slice ao n cap) ∧ (Quote.esc all t.data.toList).length = n ∧ Inv w' w.heap.size [rowY ao n cap (Quote.esc all t.data.toList)] ∧ Below w.heap.size w w' := by
  go_enter Try.func9, Try.ntmps9
  go_wp2_with fail
  go_loopg [5, 6] t.size (fun gk v5 v6 wr => ∃ (ao : Option Addr) (n cap i : Nat), v5 = .slice ao n cap ∧ v6 = .int .i64 i ∧ i ≤ t.size ∧ n ≤ 2 * i ∧ gk = t.size - i ∧
      Hid ((Quote.esc all (t.data.toList.take i)).length = n ∧ Inv wr w.heap.size [rowY ao n cap (Quote.esc all (t.data.toList.take i))] ∧ Below w.heap.size w wr))
  case atStart => exact ⟨none, 0, 0, 0, rfl, rfl, Nat.zero_le _, Nat.le_refl _, rfl, rfl, inv_nils _ _ [(5, 1)], Below.refl _ _⟩
  case round =>
    obtain ⟨ao, n, cap, i, rfl, rfl, hi, hn, rfl, HR⟩ := hrel
    by_cases hit : i < t.size
    · have hii : (i : Int) < (t.size : Int) := by omega
      have hmeas : t.size - (i + 1) < t.size - i := by omega
      have hbs : w.heap.size ≤ wr.heap.size := (HR.out.2.2).size
      obtain ⟨E, hE⟩ : ∃ x, Quote.esc all (t.data.toList.take i) = x := ⟨_, rfl⟩
      have HE : Hid (Quote.esc all (t.data.toList.take (i + 1)) = E ++ (if all || t[i] == 34 || t[i] == 92 then [92, t[i]] else [t[i]])) := by
        show _ = _
        rw [take_snoc t i hit, Quote.esc_snoc, hE]
      rw [hE] at HR
      have Hrows : Hid (Inv wr w.heap.size ([] ++ rowY ao n cap E :: [])) := HR.out.2.1
      clear hE
      go_upto_region 5 with fail
      go_cut [25] (fun v wx => v = .bool (all || t[i] == 34 || t[i] == 92) ∧ wx = wr)
      case first =>
        cases all with
        | true =>
          go_wp2_with fail
          go_meet
          case rel => exact ⟨rfl, rfl⟩
        | false =>
          have e34 := byte_eq t[i] 34 (by omega)
          have e92 := byte_eq t[i] 92 (by omega)
          have E34 : Hid _ := e34
          have E92 : Hid _ := e92
          clear e34 e92
          cases h34 : ((t[i].toNat : Int) == 34)
          · go_wp2_with fail
            go_meet
            case rel => exact ⟨by have h1 := E34.out.trans h34; have h2 := E92.out; rw [show (t[i] == 34) = false from h1, show (t[i] == 92) = ((t[i].toNat : Int) == 92) from h2]; rfl, rfl⟩
          · go_wp2_with fail
            go_meet
            case rel => exact ⟨by have h1 := E34.out.trans h34; rw [show (t[i] == 34) = true from h1]; rfl, rfl⟩
      case rest =>
        obtain ⟨rfl, rfl⟩ := hcut
        have hn5 : n ≤ 5000000000 := by omega
        have hn6 : n + 1 ≤ 5000000000 := by omega
        cases hb : (all || t[i] == 34 || t[i] == 92)
        · have HE2 : Hid (Quote.esc all (t.data.toList.take (i + 1)) = E ++ [t[i]]) := by
            show _ = _
            rw [HE.out, hb]; rfl
          have hnn : n + 1 ≤ 2 * (i + 1) := by omega
          go_wp2_with (at_builtin; refine app_byte _ rfl (.tmp 29) (.tmp 33) rfl w.heap.size ao n cap E [] [] t[i] _ rfl rfl (by exact Hrows.out) rfl hn5 hbs ?_)
          intro ao' cap' w1 hinv1 hbel1
          have HI : Hid (Inv w1 w.heap.size [rowY ao' (n + 1) cap' (Quote.esc all (t.data.toList.take (i + 1)))]) := by rw [HE2.out]; exact hinv1
          have HB : Hid (Below w.heap.size w w1) := (HR.out.2.2).trans hbel1
          clear hinv1 hbel1
          go_wp2_with fail
          go_roundg (t.size - (i + 1))
          case measure => exact hmeas
          case rel => exact ⟨ao', n + 1, cap', i + 1, rfl, by go_num, hit, hnn, rfl, by rw [HE2.out, List.length_append, HR.out.1]; rfl, HI.out, HB.out⟩
        · have HE2 : Hid (Quote.esc all (t.data.toList.take (i + 1)) = E ++ [92, t[i]]) := by
            show _ = _
            rw [HE.out, hb, if_pos rfl]
          have hnn : n + 1 + 1 ≤ 2 * (i + 1) := by omega
          go_wp2_with (at_builtin; refine app_byte _ rfl (.tmp 26) (.tmp 27) rfl w.heap.size ao n cap E [] [] 92 _ rfl rfl (by exact Hrows.out) rfl hn5 hbs ?_)
          intro ao' cap' w1 hinv1 hbel1
          have Hrows1 : Hid (Inv w1 w.heap.size ([] ++ rowY ao' (n + 1) cap' (E ++ [92]) :: [])) := hinv1
          have hbs1 : w.heap.size ≤ w1.heap.size := Nat.le_trans hbs hbel1.size
          have HB1 : Hid (Below w.heap.size w w1) := (HR.out.2.2).trans hbel1
          clear hinv1 hbel1
          go_wp2_with (at_builtin; refine app_byte _ rfl (.tmp 29) (.tmp 33) rfl w.heap.size ao' (n + 1) cap' (E ++ [92]) [] [] t[i] _ rfl rfl (by exact Hrows1.out) rfl hn6 hbs1 ?_)
          intro ao2 cap2 w2 hinv2 hbel2
          have HI : Hid (Inv w2 w.heap.size [rowY ao2 (n + 1 + 1) cap2 (Quote.esc all (t.data.toList.take (i + 1)))]) := by rw [HE2.out]; exact hinv2
          have HB : Hid (Below w.heap.size w w2) := (HB1.out).trans hbel2
          clear hinv2 hbel2
          go_wp2_with fail
          go_roundg (t.size - (i + 1))
          case measure => exact hmeas
          case rel => exact ⟨ao2, n + 1 + 1, cap2, i + 1, rfl, by go_num, hit, hnn, rfl, by rw [HE2.out, List.length_append, HR.out.1]; rfl, HI.out, HB.out⟩
    · have HF : Hid (t.data.toList.take i = t.data.toList) := List.take_of_length_le (by rw [len_list]; omega)
      have hii : ¬ (i : Int) < (t.size : Int) := by omega
      go_wp2_with fail
      go_ret
      rw [HF.out] at HR
      exact ⟨ao, n, cap, rfl, HR.out⟩
end Go.Proofs.Qxb6604015a
