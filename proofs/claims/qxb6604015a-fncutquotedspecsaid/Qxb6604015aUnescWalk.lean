import Derived.Test.Qxb6604015aRoundWalk
import Derived.Test.Qxb6604015aRunsPlain
namespace Go.Proofs.Qxb6604015a
open Go.RowKit RowsKit

/-- what a row of bytes reads as, as a string: also where it is nil -/
theorem conv_row {w : World} {base n cap : Nat} {ao : Option Addr} {l : List UInt8} (h : Inv w base [rowY ao n cap l]) (hl : l.length = n) :
    (convert 26 9 (.slice ao n cap)).run Try.prog w = .ok (.string ⟨l.toArray⟩) w := by
  have h0 : w.ownsRow base 5 1 (.slice ao n cap) n (Lib.byteCells l) := h.own _ List.mem_cons_self
  rcases h0.2 with ⟨h1, h2⟩ | ⟨g, cap', cur, hv, _⟩
  · have h3 : l = [] := List.eq_nil_of_length_eq_zero (by omega)
    subst h3
    rw [h1]
    exact run_convert_bytes_nil (P := Try.prog) w 26 5 Try.underlying26 Try.underlying5 0 0 9 Try.underlying9
  · rw [hv] at h0 ⊢
    exact conv_own h0 hl

theorem rep_step (t : ByteArray) (i j : Nat) (hij : i ≤ j) (hj : j < t.size) (h : t.data.toList.drop i = List.replicate (j - i) 92 ++ t.data.toList.drop j) (h92 : (t[j] == 92) = true) :
    t.data.toList.drop i = List.replicate (j + 1 - i) 92 ++ t.data.toList.drop (j + 1) := by
  have e : j + 1 - i = (j - i) + 1 := by omega
  rw [h, drop_at t j hj, e, List.replicate_succ', List.append_assoc, show t[j] = 92 from by simpa using h92]
  rfl

set_option maxRecDepth 100000 in
set_option maxHeartbeats 2000000 in
theorem unesc_any (t : ByteArray) (w : World) (ht : t.size ≤ 1048576) (o : List UInt8) (Ho : Hid (Quote.un false t.data.toList = o)) :
    Calls Try.prog 11 #[.string t] w fun e w' => e = .returned (.string ⟨o.toArray⟩) ∧ Below w.heap.size w w' := by
  go_enter Try.func11, Try.ntmps11
  go_wp2_with fail
  go_loopg [3, 4] t.size (fun gk v3 v4 wr => ∃ (ao : Option Addr) (n cap i : Nat) (l : List UInt8) (b : Bool), v3 = .slice ao n cap ∧ v4 = .int .i64 i ∧ i ≤ t.size ∧ n ≤ i ∧ gk = t.size - i ∧
      Hid (l.length = n ∧ l ++ Quote.un b (t.data.toList.drop i) = o ∧ (b = true → ∀ h : i < t.size, (t[i] == 92) = false) ∧ Inv wr w.heap.size [rowY ao n cap l] ∧ Below w.heap.size w wr))
  case atStart => exact ⟨none, 0, 0, 0, [], false, rfl, rfl, Nat.zero_le _, Nat.le_refl _, rfl, rfl, Ho.out, (fun h => by cases h), inv_nils _ _ [(5, 1)], Below.refl _ _⟩
  case round =>
    obtain ⟨ao, n, cap, i, l, b, rfl, rfl, hi, hn, rfl, HR⟩ := hrel
    by_cases hit : i < t.size
    · have hii : (i : Int) < (t.size : Int) := by omega
      have hbs : w.heap.size ≤ wr.heap.size := (HR.out.2.2.2.2).size
      have Hrows : Hid (Inv wr w.heap.size ([] ++ rowY ao n cap l :: [])) := HR.out.2.2.2.1
      have hn5 : n ≤ 5000000000 := by omega
      have Hda : Hid (t.data.toList.drop i = t[i] :: t.data.toList.drop (i + 1)) := drop_at t i hit
      cases h92 : ((t[i].toNat : Int) == 92)
      · have hne : ((t[i].toNat : Int) != 92) = true := by simp only [bne, h92]; rfl
        have hmeas : t.size - (i + 1) < t.size - i := by omega
        have HQ : Hid ((l ++ [t[i]]) ++ Quote.un false (t.data.toList.drop (i + 1)) = o) := by
          show _ = _
          rw [← HR.out.2.1, Hda.out, Quote.un_plain ((byte_eq _ 92 (by omega)).trans h92), List.append_assoc]; rfl
        go_wp2_with (at_builtin; refine app_byte _ rfl (.tmp 15) (.tmp 19) rfl w.heap.size ao n cap l [] [] t[i] _ rfl rfl (by exact Hrows.out) rfl hn5 hbs ?_)
        intro ao' cap' w1 hinv1 hbel1
        have HI : Hid (Inv w1 w.heap.size [rowY ao' (n + 1) cap' (l ++ [t[i]])]) := hinv1
        have HB : Hid (Below w.heap.size w w1) := (HR.out.2.2.2.2).trans hbel1
        clear hinv1 hbel1
        go_wp2_with fail
        go_roundg (t.size - (i + 1))
        case measure => exact hmeas
        case rel => exact ⟨ao', n + 1, cap', i + 1, l ++ [t[i]], false, rfl, by go_num, hit, by omega, rfl, by rw [List.length_append, HR.out.1]; rfl, HQ.out, (fun h => by cases h), HI.out, HB.out⟩
      · have hne : ((t[i].toNat : Int) != 92) = false := by simp only [bne, h92]; rfl
        have Hb : Hid (b = false) := by
          show _ = _
          cases hb : b
          · rfl
          · have h1 := HR.out.2.2.1 hb hit
            have h2 : (t[i] == 92) = true := (byte_eq _ 92 (by omega)).trans h92
            rw [h2] at h1
            cases h1
        have h92' : (t[i] == 92) = true := (byte_eq _ 92 (by omega)).trans h92
        have H92 : Hid ((t[i] == 92) = true) := h92'
        clear h92'
        go_upto_block 2 with fail
        go_cut [5] (fun v5 wx => ∃ j : Nat, v5 = .int .i64 j ∧ i < j ∧ j ≤ t.size ∧ wx = wr ∧ Hid (t.data.toList.drop i = List.replicate (j - i) 92 ++ t.data.toList.drop j ∧ ∀ h : j < t.size, (t[j] == 92) = false))
        case first =>
          go_wp2_with fail
          go_loopg [5] (t.size - i) (fun gk v5 wx => ∃ j : Nat, v5 = .int .i64 j ∧ i ≤ j ∧ j ≤ t.size ∧ gk = t.size - j ∧ wx = wr ∧ Hid (t.data.toList.drop i = List.replicate (j - i) 92 ++ t.data.toList.drop j))
          case atStart => exact ⟨i, rfl, Nat.le_refl _, hi, rfl, rfl, by rw [Nat.sub_self]; rfl⟩
          case round =>
            obtain ⟨j, rfl, hij, hj, rfl, rfl, HJ⟩ := hrel
            by_cases hjt : j < t.size
            · have hjj : (j : Int) < (t.size : Int) := by omega
              cases hc : ((t[j].toNat : Int) == 92)
              · have HF : Hid (i < j ∧ ∀ h : j < t.size, (t[j] == 92) = false) := by
                  have h1 : (t[j] == 92) = false := (byte_eq _ 92 (by omega)).trans hc
                  refine ⟨?_, fun _ => h1⟩
                  refine Nat.lt_of_le_of_ne hij ?_
                  intro e
                  subst e
                  have h2 := H92.out
                  rw [h1] at h2
                  cases h2
                go_wp2_with fail
                go_meet
                case rel => exact ⟨j, rfl, HF.out.1, hj, rfl, HJ.out, HF.out.2⟩
              · have HJ2 : Hid (t.data.toList.drop i = List.replicate (j + 1 - i) 92 ++ t.data.toList.drop (j + 1)) := rep_step t i j hij hjt HJ.out ((byte_eq _ 92 (by omega)).trans hc)
                have hm2 : t.size - (j + 1) < t.size - j := by omega
                go_wp2_with fail
                go_roundg (t.size - (j + 1))
                case measure => exact hm2
                case rel => exact ⟨j + 1, by go_num, by omega, hjt, rfl, rfl, HJ2.out⟩
            · have hjj : ¬ (j : Int) < (t.size : Int) := by omega
              have HF : Hid (i < j ∧ ∀ h : j < t.size, (t[j] == 92) = false) := ⟨by omega, fun h => absurd h hjt⟩
              go_wp2_with fail
              go_meet
              case rel => exact ⟨j, rfl, HF.out.1, hj, rfl, HJ.out, HF.out.2⟩
        case rest =>
          obtain ⟨j, rfl, hij, hj, rfl, HJ⟩ := hcut
          obtain ⟨h, hh⟩ : ∃ h : Nat, h = (j - i) / 2 := ⟨_, rfl⟩
          have hquo : Int.tdiv ((j : Int) - (i : Int)) 2 = (h : Int) := by
            rw [hh, show (j : Int) - (i : Int) = ((j - i : Nat) : Int) from by omega]; rfl
          have hsub : IntKind.i64.wrap ((j : Int) - (i : Int)) = (j : Int) - (i : Int) := IntWalk.i64_in _ ⟨by omega, by omega⟩
          have hwq : IntKind.i64.wrap (h : Int) = (h : Int) := IntWalk.i64_in _ ⟨by omega, by omega⟩
          have hhb : h ≤ t.size := by omega
          have hnh : n + h ≤ j := by omega
          have hmeasj : t.size - j < t.size - i := by omega
          have HQ : Hid ((l ++ List.replicate h 92) ++ Quote.un ((j - i) % 2 == 1) (t.data.toList.drop j) = o) := by
            show _ = _
            rw [← HR.out.2.1, Hb.out, HJ.out.1, Quote.un_run, hh, List.append_assoc]
          have HH : Hid (h = (j - i) / 2) := hh
          clear hh
          go_wp2_with fail
          go_loopg [3, 6] h (fun gk v3 v6 wx => ∃ (ao' : Option Addr) (cap' m : Nat), v3 = .slice ao' (n + m) cap' ∧ v6 = .int .i64 m ∧ m ≤ h ∧ gk = h - m ∧ Hid (Inv wx w.heap.size [rowY ao' (n + m) cap' (l ++ List.replicate m 92)] ∧ Below w.heap.size w wx))
          case atStart => exact ⟨ao, cap, 0, rfl, rfl, Nat.zero_le _, rfl, by rw [List.replicate_zero, List.append_nil]; exact HR.out.2.2.2.1, HR.out.2.2.2.2⟩
          case round =>
            obtain ⟨ao', cap', m, rfl, rfl, hm, rfl, HX⟩ := hrel
            by_cases hmh : m < h
            · have hmi : (m : Int) < (h : Int) := by omega
              have hbx : w.heap.size ≤ wr.heap.size := (HX.out.2).size
              have Hrx : Hid (Inv wr w.heap.size ([] ++ rowY ao' (n + m) cap' (l ++ List.replicate m 92) :: [])) := HX.out.1
              have hn6 : n + m ≤ 5000000000 := by omega
              have hm3 : h - (m + 1) < h - m := by omega
              have HE : Hid ((l ++ List.replicate m 92) ++ [(92 : UInt8)] = l ++ List.replicate (m + 1) 92) := by
                show _ = _
                rw [List.append_assoc, ← List.replicate_succ']
              generalize l ++ List.replicate m 92 = lm at Hrx HE
              go_wp2_with (at_builtin; refine app_byte _ rfl (.tmp 44) (.tmp 45) rfl w.heap.size ao' (n + m) cap' lm [] [] 92 _ rfl rfl (by exact Hrx.out) rfl hn6 hbx ?_)
              intro ao2 cap2 w2 hinv2 hbel2
              have HI : Hid (Inv w2 w.heap.size [rowY ao2 (n + (m + 1)) cap2 (l ++ List.replicate (m + 1) 92)]) := by rw [← HE.out]; exact hinv2
              have HB : Hid (Below w.heap.size w w2) := (HX.out.2).trans hbel2
              clear hinv2 hbel2
              go_wp2_with fail
              go_roundg (h - (m + 1))
              case measure => exact hm3
              case rel => exact ⟨ao2, cap2, m + 1, rfl, by go_num, hmh, rfl, HI.out, HB.out⟩
            · have hmi : ¬ (m : Int) < (h : Int) := by omega
              have hmm : m = h := by omega
              subst hmm
              go_wp2_with fail
              go_roundg (t.size - j)
              case measure => exact hmeasj
              case rel => exact ⟨ao', n + m, cap', j, l ++ List.replicate m 92, _, rfl, rfl, hj, hnh, rfl, by rw [List.length_append, HR.out.1, List.length_replicate], HQ.out, (fun _ h => HJ.out.2 h), HX.out.1, HX.out.2⟩
    · have hii : ¬ (i : Int) < (t.size : Int) := by omega
      have HF : Hid (l = o) := by
        show _ = _
        rw [← HR.out.2.1, List.drop_of_length_le (by rw [len_list]; omega), Quote.un_nil, List.append_nil]
      have hconv := conv_row HR.out.2.2.2.1 HR.out.1
      rw [HF.out] at hconv
      go_wp2_with fail
      go_ret
      exact ⟨rfl, HR.out.2.2.2.2⟩
end Go.Proofs.Qxb6604015a
