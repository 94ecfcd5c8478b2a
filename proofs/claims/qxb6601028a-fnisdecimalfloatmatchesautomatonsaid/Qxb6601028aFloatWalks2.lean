import Derived.Test.Qxb6601028aFloatWalks
namespace Go.Proofs.Qxb6601028a
open Go.RowKit

theorem run_more (s : ByteArray) (k st : Nat) (h : k < s.size) (hs : ¬ FloatPlain.stp st s[k] < 0) : FloatPlain.run st (s.data.toList.drop k) = FloatPlain.run (FloatPlain.stp st s[k]).toNat (s.data.toList.drop (k + 1)) :=
  FloatPlain.run_step s.data.toList k st (by simpa using h) hs
theorem run_less (s : ByteArray) (k st : Nat) (h : k < s.size) (hs : FloatPlain.stp st s[k] < 0) : FloatPlain.run st (s.data.toList.drop k) = false :=
  FloatPlain.run_stop s.data.toList k st (by simpa using h) hs

theorem acc_true {b : Bool} {st : Nat} (h : b = (st == 2 || st == 4 || st == 8)) (g : (st : Int) = 2 ∨ (st : Int) = 4) : true = b := by
  rcases g with g | g
  · have : st = 2 := by omega
    subst this; rw [h]; rfl
  · have : st = 4 := by omega
    subst this; rw [h]; rfl
theorem acc_same {b : Bool} {st : Nat} (h : b = (st == 2 || st == 4 || st == 8)) : ((st : Int) == 2 || (st : Int) == 4 || (st : Int) == 8) = b := by
  have e : ∀ n : Nat, ((st : Int) == (n : Int)) = (st == n) := fun n => by
    rw [Bool.eq_iff_iff]; simp only [beq_iff_eq]; omega
  rw [h, ← e 2, ← e 4, ← e 8]; rfl

set_option maxHeartbeats 400000 in
theorem accepts_any (s : ByteArray) (w : World) (hs : s.size ≤ maxLen) :
    Calls Try.prog 12 #[.string s] w fun e w' => e = .returned (.bool (FloatPlain.run 0 s.data.toList)) ∧ w' = w := by
  unfold maxLen at hs
  go_enter Try.func12, Try.ntmps12
  go_wp2
  go_loop [3, 4] (fun t i => ∃ k st : Nat, k ≤ s.size ∧ st ≤ 8 ∧ i = .int .i64 k ∧ t = .int .i64 st ∧ Hid (FloatPlain.run 0 s.data.toList = FloatPlain.run st (s.data.toList.drop k))) (fun _ i => s.size - (intOf i).toNat)
  case atStart => exact ⟨0, 0, Nat.zero_le _, by omega, rfl, rfl, by simp [Hid]⟩
  case round =>
    obtain ⟨k, st, hk, hst, rfl, rfl, hc⟩ := hrel
    by_cases hlt : k < s.size
    · have hr := FloatPlain.stp_range st s[k]
      by_cases hneg : FloatPlain.stp st s[k] < 0
      · have HF : Hid (FloatPlain.run 0 s.data.toList = false) := hc.out.trans (run_less s k st hlt hneg)
        clear hc
        go_wp2_with (go_at_call 30; refine (step_any _ _ _ hst).mono ?_; rintro e w' ⟨rfl, rfl⟩)
        go_ret
        exact ⟨ret_bool HF.out.symm, rfl⟩
      · have HF : Hid (FloatPlain.run 0 s.data.toList = FloatPlain.run (FloatPlain.stp st s[k]).toNat (s.data.toList.drop (k + 1))) := hc.out.trans (run_more s k st hlt hneg)
        clear hc
        go_wp2_with (go_at_call 30; refine (step_any _ _ _ hst).mono ?_; rintro e w' ⟨rfl, rfl⟩)
        go_round
        case rel => exact ⟨k + 1, (FloatPlain.stp st s[k]).toNat, by omega, by omega, by go_num, by go_num, HF⟩
        case measure => simp [intOf]; omega
    · have HF : Hid (FloatPlain.run 0 s.data.toList = (st == 2 || st == 4 || st == 8)) := by
        have h := hc.out
        rw [List.drop_of_length_le (by simp; omega)] at h
        exact h
      clear hc
      go_wp2
      · go_ret
        exact ⟨ret_bool (acc_true HF.out (by omega)), rfl⟩
      · go_ret
        exact ⟨ret_bool (acc_true HF.out (by omega)), rfl⟩
      · go_ret
        exact ⟨ret_bool (acc_same HF.out), rfl⟩


theorem ext_list (s : ByteArray) (a : Nat) : (s.extract a s.size).data.toList = s.data.toList.drop a := by
  rw [ByteArray.data_extract, Array.toList_extract, List.extract_eq_take_drop, List.take_of_length_le]
  simp
theorem len_list (s : ByteArray) : s.data.toList.length = s.size := by rw [Array.length_toList]; rfl
theorem empty_yes {s : ByteArray} (h : ¬ 0 < s.size) : s.toList.isEmpty = true ∧ s.data.toList = [] := by
  rw [ByteArray.toList_eq]
  have : s.data.toList = [] := List.eq_nil_of_length_eq_zero (by rw [len_list]; omega)
  exact ⟨by rw [this]; rfl, this⟩
theorem empty_no {s : ByteArray} (h : 0 < s.size) : s.toList.isEmpty = false ∧ s.data.toList = s[0] :: s.data.toList.drop 1 := by
  rw [ByteArray.toList_eq]
  have : s.data.toList = s[0] :: s.data.toList.drop 1 :=
    List.drop_eq_getElem_cons (l := s.data.toList) (i := 0) (by rw [len_list]; exact h)
  exact ⟨by rw [this]; rfl, this⟩

/-- the first byte meets p -/
def headIs (p : UInt8 → Bool) (l : List UInt8) : Bool := match l with | [] => false | c :: _ => p c

theorem head_empty {p : UInt8 → Bool} {s : ByteArray} (h : ¬ 0 < s.size) : false = headIs p s.data.toList := by rw [(empty_yes h).2]; rfl
theorem head_first {p : UInt8 → Bool} {s : ByteArray} {b : Bool} (h : 0 < s.size) (e : b = p s[0]) : b = headIs p s.data.toList := by rw [(empty_no h).2]; exact e
theorem head_some {p : UInt8 → Bool} {s : ByteArray} (e : headIs p s.data.toList = true) : 0 < s.size ∧ ∃ c, s.data.toList = c :: s.data.toList.drop 1 ∧ p c = true := by
  by_cases h : 0 < s.size
  · refine ⟨h, _, (empty_no h).2, ?_⟩
    rw [(empty_no h).2] at e; exact e
  · rw [← head_empty h] at e; cases e
theorem val_bool {a b : Bool} (h : a = b) : Value.bool a = .bool b := by rw [h]

theorem strip_yes {s : ByteArray} (e : headIs FloatPlain.sgn s.data.toList = true) : (s.extract 1 s.size).data.toList = FloatPlain.strip s.data.toList := by
  obtain ⟨_, c, hc, hp⟩ := head_some e
  rw [ext_list]
  generalize s.data.toList.drop 1 = r at hc
  rw [hc]; simp [FloatPlain.strip, hp]
theorem strip_no {s : ByteArray} (e : headIs FloatPlain.sgn s.data.toList = false) : s.data.toList = FloatPlain.strip s.data.toList := by
  generalize s.data.toList = l at e
  cases l with
  | nil => rfl
  | cons c r => simp only [headIs] at e; simp [FloatPlain.strip, e]
theorem frac_yes {s : ByteArray} (e : headIs FloatPlain.dot s.data.toList = true) : FloatPlain.frac s.data.toList = (FloatPlain.cnt (s.data.toList.drop 1), (s.data.toList.drop 1).drop (FloatPlain.cnt (s.data.toList.drop 1))) := by
  obtain ⟨_, c, hc, hp⟩ := head_some e
  generalize s.data.toList.drop 1 = r at hc
  rw [hc]; simp [FloatPlain.frac, hp]
theorem frac_no {s : ByteArray} (e : headIs FloatPlain.dot s.data.toList = false) : FloatPlain.frac s.data.toList = (0, s.data.toList) := by
  generalize s.data.toList = l at e
  cases l with
  | nil => rfl
  | cons c r => simp only [headIs] at e; simp [FloatPlain.frac, e]
theorem tail_yes {s : ByteArray} (e : headIs FloatPlain.exq s.data.toList = true) : FloatPlain.tailOk s.data.toList = FloatPlain.expo (FloatPlain.strip (s.data.toList.drop 1)) := by
  obtain ⟨_, c, hc, hp⟩ := head_some e
  generalize s.data.toList.drop 1 = r at hc
  rw [hc]; simp [FloatPlain.tailOk, hp]
theorem tail_no {s : ByteArray} (e : headIs FloatPlain.exq s.data.toList = false) : FloatPlain.tailOk s.data.toList = s.data.toList.isEmpty := by
  generalize s.data.toList = l at e
  cases l with
  | nil => rfl
  | cons c r => simp only [headIs] at e; simp [FloatPlain.tailOk, e]

/-- 'countDecimal' with its answer under a name of its own -/
theorem count_ex (s : ByteArray) (l : List UInt8) (w : World) (hs : s.size ≤ maxLen) (hl : Hid (s.data.toList = l)) :
    Calls Try.prog 39 #[.string s] w fun e w' => ∃ m : Nat, e = .returned (.int .i64 m) ∧ m ≤ s.size ∧ Hid (m = FloatPlain.cnt l) ∧ w' = w :=
  (count_any s w hs).mono fun _ _ h => ⟨_, h.1, by have := FloatPlain.cnt_le s.data.toList; rw [len_list] at this; omega, by rw [hl.out]; rfl, h.2⟩

theorem ext_size (s : ByteArray) (a : Nat) : (s.extract a s.size).size = s.size - a := by rw [ByteArray.size_extract]; omega

set_option maxRecDepth 100000 in
set_option maxHeartbeats 2000000 in
theorem isdec_any (s : ByteArray) (w : World) (hs : s.size ≤ maxLen) :
    Calls Try.prog 29 #[.string s] w fun e w' => e = .returned (.bool (FloatPlain.isDec s.data.toList)) ∧ w' = w := by
  unfold maxLen at hs
  go_enter Try.func29, Try.ntmps29
  go_upto_region 1 with fail
  go_cut [17] (fun t w' => t = .bool (headIs FloatPlain.sgn s.data.toList) ∧ w' = w)
  case first =>
    by_cases hz : 0 < s.size
    · have hne := (empty_no hz).1
      go_wp2
      · go_meet
        case rel => exact ⟨val_bool (head_first hz (by go_light; simp [FloatPlain.sgn, *])), rfl⟩
      · go_meet
        case rel => exact ⟨val_bool (head_first hz (by go_light; simp [FloatPlain.sgn, *])), rfl⟩
    · have hne := (empty_yes hz).1
      go_wp2
      go_meet
      case rel => exact ⟨val_bool (head_empty hz), rfl⟩
  case rest =>
    obtain ⟨rfl, rfl⟩ := hcut
    go_upto_if 17 with fail
    go_cut [0, 17] (fun t _ w' => ∃ s1 : ByteArray, t = .string s1 ∧ s1.size ≤ 2 ^ 63 - 1 ∧ Hid (s1.data.toList = FloatPlain.strip s.data.toList) ∧ w' = wc)
    case first =>
      cases hb : headIs FloatPlain.sgn s.data.toList
      · have H : Hid (s.data.toList = FloatPlain.strip s.data.toList) := strip_no hb
        go_wp2
        go_meet
        case rel => exact ⟨s, rfl, hs, H, rfl⟩
      · have H : Hid ((s.extract 1 s.size).data.toList = FloatPlain.strip s.data.toList) := strip_yes hb
        have hz := (head_some hb).1
        go_wp2
        go_meet
        case rel => exact ⟨_, rfl, by rw [ByteArray.size_extract]; omega, H, rfl⟩
    case rest =>
      obtain ⟨s1, rfl, hs1, H1, rfl⟩ := hcut
      have hle : FloatPlain.cnt s1.data.toList ≤ s1.size := by rw [← len_list]; exact FloatPlain.cnt_le _
      go_upto_region 6 with (go_at_call 39; refine (count_any _ _ hs1).mono ?_; rintro e w' ⟨rfl, rfl⟩)
      have H2 : Hid ((s1.extract (FloatPlain.cnt s1.data.toList) s1.size).data.toList = s1.data.toList.drop (FloatPlain.cnt s1.data.toList)) := ext_list _ _
      have hz2 : (s1.extract (FloatPlain.cnt s1.data.toList) s1.size).size ≤ 2 ^ 63 - 1 := by rw [ByteArray.size_extract]; omega
      have H3 : Hid (FloatPlain.isDec s.data.toList = FloatPlain.rest s1.data.toList) := by show _ = _; rw [H1.out]; rfl
      generalize s1.extract (FloatPlain.cnt s1.data.toList) s1.size = s2 at *
      have H4 : Hid (FloatPlain.rest s1.data.toList = if FloatPlain.cnt s1.data.toList == 0 && (FloatPlain.frac s2.data.toList).1 == 0 then false else FloatPlain.tailOk (FloatPlain.frac s2.data.toList).2) := by
        show _ = _; rw [H2.out]; rfl
      clear H1 H2
      generalize FloatPlain.cnt s1.data.toList = n at *
      go_cut [31] (fun t w'' => t = .bool (headIs FloatPlain.dot s2.data.toList) ∧ w'' = w')
      case first =>
        by_cases hz : 0 < s2.size
        · have hne := (empty_no hz).1
          go_wp2
          go_meet
          case rel => exact ⟨val_bool (head_first hz (by go_light; simp [FloatPlain.dot])), rfl⟩
        · have hne := (empty_yes hz).1
          go_wp2
          go_meet
          case rel => exact ⟨val_bool (head_empty hz), rfl⟩
      case rest =>
        obtain ⟨rfl, rfl⟩ := hcut
        go_upto_if 31 with fail
        go_cut [0, 4, 31] (fun t f _ w' => ∃ (s3 : ByteArray) (m : Nat), t = .string s3 ∧ f = .int .i64 m ∧ m ≤ 2 ^ 63 - 1 ∧ s3.size ≤ 2 ^ 63 - 1 ∧ Hid (FloatPlain.frac s2.data.toList = (m, s3.data.toList)) ∧ w' = wc)
        case first =>
          cases hb : headIs FloatPlain.dot s2.data.toList
          · have H : Hid (FloatPlain.frac s2.data.toList = (0, s2.data.toList)) := frac_no hb
            go_wp2
            go_meet
            case rel => exact ⟨s2, 0, rfl, rfl, by omega, hz2, H, rfl⟩
          · have H : Hid _ := frac_yes hb
            have hz := (head_some hb).1
            have hl : Hid ((s2.extract 1 s2.size).data.toList = s2.data.toList.drop 1) := ext_list _ _
            have hx : (s2.extract 1 s2.size).size ≤ maxLen := by rw [ext_size]; unfold maxLen; omega
            go_wp2_with fail
            refine (count_ex _ _ _ hx hl).mono ?_
            rintro e w' ⟨m, rfl, hm, Hm, rfl⟩
            rw [ext_size] at hm
            have hm1 : 1 + m ≤ s2.size := by omega
            clear hm hl hx
            go_wp2
            go_meet
            case rel =>
              refine ⟨s2.extract (1 + m) s2.size, m, rfl, rfl, by omega, by rw [ext_size]; omega, ?_, rfl⟩
              show _ = _
              rw [H.out, ext_list, Hm.out, List.drop_drop]
        case rest =>
          obtain ⟨s3, m, rfl, rfl, hm, hs3, H5, rfl⟩ := hcut
          have H6 : Hid (FloatPlain.isDec s.data.toList = if n == 0 && m == 0 then false else FloatPlain.tailOk s3.data.toList) := by
            show _ = _
            rw [H3.out, H4.out, H5.out]
          clear H3 H4 H5
          by_cases hnm : n = 0 ∧ m = 0
          · obtain ⟨rfl, rfl⟩ := hnm
            have HF : Hid (FloatPlain.isDec s.data.toList = false) := H6.out
            clear H6
            go_wp2
            go_ret
            exact ⟨ret_bool HF.out.symm, rfl⟩
          · have H7 : Hid (FloatPlain.isDec s.data.toList = FloatPlain.tailOk s3.data.toList) := by
              show _ = _
              rw [H6.out, if_neg]
              simpa using hnm
            clear H6
            have hnm' : ((n : Int) == 0) = false ∨ (n = 0 ∧ ((m : Int) == 0) = false) := by
              rw [beq_eq_false_iff_ne, beq_eq_false_iff_ne]; omega
            clear hnm
            go_upto_region 9 with fail
            go_cut [3, 4, 44] (fun _ _ t w' => t = .bool false ∧ w' = wc)
            case first =>
              rcases hnm' with h | ⟨rfl, h⟩
              all_goals
                go_wp2
                go_meet
                case rel => exact ⟨rfl, rfl⟩
            case rest =>
              obtain ⟨rfl, rfl⟩ := hcut
              go_upto_region 11 with fail
              go_cut [56] (fun t w' => t = .bool (headIs FloatPlain.exq s3.data.toList) ∧ w' = wc)
              case first =>
                by_cases hz : 0 < s3.size
                · have hne := (empty_no hz).1
                  go_wp2
                  · go_meet
                    case rel => exact ⟨val_bool (head_first hz (by go_light; simp [FloatPlain.exq, *])), rfl⟩
                  · go_meet
                    case rel => exact ⟨val_bool (head_first hz (by go_light; simp [FloatPlain.exq, *])), rfl⟩
                · have hne := (empty_yes hz).1
                  go_wp2
                  go_meet
                  case rel => exact ⟨val_bool (head_empty hz), rfl⟩
              case rest =>
                obtain ⟨rfl, rfl⟩ := hcut
                cases hb : headIs FloatPlain.exq s3.data.toList
                · have HF : Hid (FloatPlain.isDec s.data.toList = s3.toList.isEmpty) := by
                    show _ = _
                    rw [H7.out, tail_no hb, ByteArray.toList_eq]
                  clear H7
                  go_wp2
                  go_ret
                  exact ⟨ret_bool HF.out.symm, rfl⟩
                · have hz := (head_some hb).1
                  have H8 : Hid (FloatPlain.isDec s.data.toList = FloatPlain.expo (FloatPlain.strip (s3.data.toList.drop 1))) := H7.out.trans (tail_yes hb)
                  clear H7
                  go_upto_region 13 with fail
                  have H9 : Hid (FloatPlain.isDec s.data.toList = FloatPlain.expo (FloatPlain.strip (s3.extract 1 s3.size).data.toList)) := by
                    show _ = _
                    rw [H8.out, ext_list]
                  have hs4 : (s3.extract 1 s3.size).size ≤ 2 ^ 63 - 1 := by rw [ext_size]; omega
                  clear H8
                  generalize s3.extract 1 s3.size = s4 at *
                  go_cut [70] (fun t w' => t = .bool (headIs FloatPlain.sgn s4.data.toList) ∧ w' = wc)
                  case first =>
                    by_cases hz : 0 < s4.size
                    · have hne := (empty_no hz).1
                      go_wp2
                      · go_meet
                        case rel => exact ⟨val_bool (head_first hz (by go_light; simp [FloatPlain.sgn, *])), rfl⟩
                      · go_meet
                        case rel => exact ⟨val_bool (head_first hz (by go_light; simp [FloatPlain.sgn, *])), rfl⟩
                    · have hne := (empty_yes hz).1
                      go_wp2
                      go_meet
                      case rel => exact ⟨val_bool (head_empty hz), rfl⟩
                  case rest =>
                    obtain ⟨rfl, rfl⟩ := hcut
                    go_upto_if 70 with fail
                    go_cut [0, 70] (fun t _ w' => ∃ s5 : ByteArray, t = .string s5 ∧ s5.size ≤ 2 ^ 63 - 1 ∧ Hid (s5.data.toList = FloatPlain.strip s4.data.toList) ∧ w' = wc)
                    case first =>
                      cases hb : headIs FloatPlain.sgn s4.data.toList
                      · have H : Hid (s4.data.toList = FloatPlain.strip s4.data.toList) := strip_no hb
                        go_wp2
                        go_meet
                        case rel => exact ⟨s4, rfl, hs4, H, rfl⟩
                      · have H : Hid ((s4.extract 1 s4.size).data.toList = FloatPlain.strip s4.data.toList) := strip_yes hb
                        have hz := (head_some hb).1
                        go_wp2
                        go_meet
                        case rel => exact ⟨_, rfl, by rw [ext_size]; omega, H, rfl⟩
                    case rest =>
                      obtain ⟨s5, rfl, hs5, H10, rfl⟩ := hcut
                      have H11 : Hid (FloatPlain.isDec s.data.toList = FloatPlain.expo s5.data.toList) := by
                        show _ = _
                        rw [H9.out, H10.out]
                      clear H9 H10
                      go_wp2_with fail
                      refine (count_ex _ _ _ hs5 (show Hid _ from rfl)).mono ?_
                      rintro e w' ⟨x, rfl, hx, Hx, rfl⟩
                      by_cases hx0 : x = 0
                      · subst hx0
                        have HF : Hid (FloatPlain.isDec s.data.toList = false) := by
                          show _ = _
                          rw [H11.out, FloatPlain.expo, ← Hx.out]; rfl
                        clear H11 Hx
                        go_wp2
                        go_ret
                        exact ⟨ret_bool HF.out.symm, rfl⟩
                      · have HF : Hid (FloatPlain.isDec s.data.toList = (s5.extract x s5.size).toList.isEmpty) := by
                          show _ = _
                          rw [H11.out, FloatPlain.expo, ← Hx.out, if_neg (by simpa using hx0), ByteArray.toList_eq, ext_list]
                        have hx1 : ((x : Int) == 0) = false := by rw [beq_eq_false_iff_ne]; omega
                        clear H11 Hx hx0
                        go_wp2
                        go_ret
                        exact ⟨ret_bool HF.out.symm, rfl⟩
end Go.Proofs.Qxb6601028a
