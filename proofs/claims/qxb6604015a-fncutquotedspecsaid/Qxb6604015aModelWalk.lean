import Derived.Test.Qxb6604015aUnescWalk
namespace Go.Proofs.Qxb6604015a
open Go.RowKit RowsKit

/-- what stands ahead of index 'j', from index 1 on -/
def pfx (s : ByteArray) (j : Nat) : List UInt8 := (s.data.toList.drop 1).take (j - 1)

theorem pfx_one (s : ByteArray) : pfx s 1 = [] := by simp [pfx]
theorem pfx_succ (s : ByteArray) (j : Nat) (h1 : 1 ≤ j) (h : j < s.size) : pfx s (j + 1) = pfx s j ++ [s[j]] := by
  unfold pfx
  have e : j + 1 - 1 = (j - 1) + 1 := by omega
  have hl : j - 1 < (s.data.toList.drop 1).length := by rw [List.length_drop, len_list]; omega
  rw [e, List.take_succ_eq_append_getElem hl]
  congr 2
  rw [List.getElem_drop]
  have e2 : 1 + (j - 1) = j := by omega
  simp only [e2]
  rfl
theorem pfx_app (s : ByteArray) (j : Nat) (h1 : 1 ≤ j) (h : j < s.size) : s.data.toList.drop 1 = pfx s j ++ s[j] :: s.data.toList.drop (j + 1) := by
  rw [← drop_at s j h]
  have e : s.data.toList.drop j = (s.data.toList.drop 1).drop (j - 1) := by rw [List.drop_drop]; congr 1; omega
  rw [e]
  exact (List.take_append_drop _ _).symm
theorem pfx_end (s : ByteArray) (j : Nat) (h : s.size ≤ j) : pfx s j = s.data.toList.drop 1 := by
  unfold pfx
  rw [List.take_of_length_le]
  rw [List.length_drop, len_list]; omega
theorem pfx_ext (s : ByteArray) (q : Nat) : (s.extract 1 q).data.toList = pfx s q := by
  rw [ByteArray.data_extract, Array.toList_extract, List.extract_eq_take_drop]
  rfl

theorem rn_step (s : ByteArray) (j k : Nat) (hk : k + 1 < j) (x : Nat) (hx : x = j - 1 - k) (hxs : x < s.size) (h : Quote.rn (pfx s j) = k + Quote.rn (pfx s (j - k))) (h92 : (s[x] == 92) = true) :
    Quote.rn (pfx s j) = (k + 1) + Quote.rn (pfx s (j - (k + 1))) := by
  subst hx
  have e : j - k = (j - 1 - k) + 1 := by omega
  have e2 : j - (k + 1) = j - 1 - k := by omega
  rw [h, e, pfx_succ s (j - 1 - k) (by omega) hxs, Quote.rn_snoc, h92, if_pos rfl, e2]
  omega
theorem rn_stop (s : ByteArray) (j k : Nat) (hk : k + 1 < j) (x : Nat) (hx : x = j - 1 - k) (hxs : x < s.size) (h : Quote.rn (pfx s j) = k + Quote.rn (pfx s (j - k))) (h92 : (s[x] == 92) = false) :
    Quote.rn (pfx s j) = k := by
  subst hx
  have e : j - k = (j - 1 - k) + 1 := by omega
  rw [h, e, pfx_succ s (j - 1 - k) (by omega) hxs, Quote.rn_snoc, h92]
  rfl
theorem rn_first (s : ByteArray) (j k : Nat) (hk : ¬ k + 1 < j) (hkj : k ≤ j - 1) (hj1 : 1 ≤ j) (h : Quote.rn (pfx s j) = k + Quote.rn (pfx s (j - k))) : Quote.rn (pfx s j) = k := by
  have e : j - k = 1 := by omega
  rw [h, e, pfx_one]
  rfl

set_option maxRecDepth 100000 in
set_option maxHeartbeats 2000000 in
theorem model_any (s : ByteArray) (w : World) (hs : s.size ≤ 1048576) (o : Option (List UInt8 × List UInt8)) (Ho : Hid (Quote.cq false (s.data.toList.drop 1) = o)) :
    Calls Try.prog 7 #[.string s] w fun e w' => e = .returned (cutRes o) ∧ Below w.heap.size w w' := by
  go_enter Try.func7, Try.ntmps7
  go_upto_block 0 with fail
  go_cut [5] (fun v5 wx => wx = w ∧ ((v5 = .int .i64 (-1) ∧ Hid (o = none)) ∨ ∃ q : Nat, v5 = .int .i64 q ∧ 1 ≤ q ∧ q < s.size ∧ Hid (o = some (Quote.un false (pfx s q), s.data.toList.drop (q + 1)))))
  case first =>
    go_wp2_with fail
    go_loopg [5, 6] (s.size + 1 - 1) (fun gk v5 v6 wx => ∃ j : Nat, v6 = .int .i64 j ∧ wx = w ∧ 1 ≤ j ∧ j ≤ s.size + 1 ∧ gk = s.size + 1 - j ∧
      ((v5 = .int .i64 (-1) ∧ Hid (Quote.ok (pfx s j))) ∨ ∃ q : Nat, v5 = .int .i64 q ∧ 1 ≤ q ∧ q < s.size ∧ Hid (o = some (Quote.un false (pfx s q), s.data.toList.drop (q + 1)))))
    case atStart => exact ⟨1, rfl, rfl, Nat.le_refl _, by omega, rfl, Or.inl ⟨rfl, by rw [pfx_one]; exact Quote.ok_nil⟩⟩
    case round =>
      obtain ⟨j, rfl, rfl, hj1, hj, rfl, h5⟩ := hrel
      rcases h5 with ⟨rfl, HK⟩ | ⟨q, rfl, hq1, hq, HQ⟩
      · by_cases hjs : j < s.size
        · have hji : (j : Int) < (s.size : Int) := by omega
          have hmeas : s.size + 1 - (j + 1) < s.size + 1 - j := by omega
          have Hps : Hid (pfx s (j + 1) = pfx s j ++ [s[j]]) := pfx_succ s j hj1 hjs
          cases h34 : ((s[j].toNat : Int) == 34)
          · have hne : ((s[j].toNat : Int) != 34) = true := by simp only [bne, h34]; rfl
            have HK2 : Hid (Quote.ok (pfx s (j + 1))) := by
              show Quote.ok _
              rw [Hps.out]; exact Quote.ok_snoc HK.out (Or.inl ((byte_eq _ 34 (by omega)).trans h34))
            go_wp2_with fail
            go_roundg (s.size + 1 - (j + 1))
            case measure => exact hmeas
            case rel => exact ⟨j + 1, by go_num, rfl, by omega, by omega, rfl, Or.inl ⟨rfl, HK2.out⟩⟩
          · have hne : ((s[j].toNat : Int) != 34) = false := by simp only [bne, h34]; rfl
            go_upto_block 2 with fail
            go_cut [7] (fun v7 wx => wx = wr ∧ ∃ k : Nat, v7 = .int .i64 k ∧ k ≤ j ∧ Hid (Quote.rn (pfx s j) = k))
            case first =>
              go_wp2_with fail
              go_loopg [7] (j - 0) (fun gk v7 wx => ∃ k : Nat, v7 = .int .i64 k ∧ wx = wr ∧ k ≤ j - 1 ∧ gk = j - k ∧ Hid (Quote.rn (pfx s j) = k + Quote.rn (pfx s (j - k))))
              case atStart => exact ⟨0, rfl, rfl, Nat.zero_le _, rfl, by rw [Nat.zero_add]; rfl⟩
              case round =>
                obtain ⟨k, rfl, rfl, hkj, rfl, HN⟩ := hrel
                have hw1 : IntKind.i64.wrap ((j : Int) - 1) = (j : Int) - 1 := IntWalk.i64_in _ ⟨by omega, by omega⟩
                have hw2 : IntKind.i64.wrap ((j : Int) - 1 - (k : Int)) = (j : Int) - 1 - (k : Int) := IntWalk.i64_in _ ⟨by omega, by omega⟩
                by_cases hk1 : k + 1 < j
                · obtain ⟨x, hx⟩ : ∃ x : Nat, x = j - 1 - k := ⟨_, rfl⟩
                  have hxi : (j : Int) - 1 - (k : Int) = (x : Int) := by omega
                  have hx1 : (1 : Int) ≤ (x : Int) := by omega
                  have hxs : x < s.size := by omega
                  have hxsi : (x : Int) < (s.size : Int) := by omega
                  have hm2 : j - (k + 1) < j - k := by omega
                  have HX : Hid (x = j - 1 - k) := hx
                  clear hx
                  cases h92 : ((s[x].toNat : Int) == 92)
                  · have HN2 : Hid (Quote.rn (pfx s j) = k) := rn_stop s j k hk1 x HX.out hxs HN.out ((byte_eq _ 92 (by omega)).trans h92)
                    go_wp2_with fail
                    go_meet
                    case rel => exact ⟨rfl, k, rfl, by omega, HN2.out⟩
                  · have HN2 : Hid (Quote.rn (pfx s j) = (k + 1) + Quote.rn (pfx s (j - (k + 1)))) := rn_step s j k hk1 x HX.out hxs HN.out ((byte_eq _ 92 (by omega)).trans h92)
                    go_wp2_with fail
                    go_roundg (j - (k + 1))
                    case measure => exact hm2
                    case rel => exact ⟨k + 1, by go_num, rfl, by omega, rfl, HN2.out⟩
                · have hge : ¬ (1 : Int) ≤ (j : Int) - 1 - (k : Int) := by omega
                  have HN2 : Hid (Quote.rn (pfx s j) = k) := rn_first s j k hk1 hkj hj1 HN.out
                  go_wp2_with fail
                  go_meet
                  case rel => exact ⟨rfl, k, rfl, by omega, HN2.out⟩
            case rest =>
              obtain ⟨rfl, k, rfl, hkj, HN⟩ := hcut
              rcases Quote.mod_cases k with hk2 | hk2
              · have hmod : (Int.tmod (k : Int) 2 == 0) = true := by
                  rw [show Int.tmod (k : Int) 2 = ((k % 2 : Nat) : Int) from rfl, hk2]; rfl
                have HF : Hid (o = some (Quote.un false (pfx s j), s.data.toList.drop (j + 1))) := by
                  show _ = _
                  rw [← Ho.out, pfx_app s j hj1 hjs]
                  refine Quote.ok_close _ HK.out ((byte_eq _ 34 (by omega)).trans h34) ?_
                  rw [Quote.st_rn, HN.out, hk2]; rfl
                go_wp2_with fail
                go_roundg (s.size + 1 - (j + 1))
                case measure => exact hmeas
                case rel => exact ⟨j + 1, by go_num, rfl, by omega, by omega, rfl, Or.inr ⟨j, rfl, hj1, hjs, HF⟩⟩
              · have hmod : (Int.tmod (k : Int) 2 == 0) = false := by
                  rw [show Int.tmod (k : Int) 2 = ((k % 2 : Nat) : Int) from rfl, hk2]; rfl
                have HK2 : Hid (Quote.ok (pfx s (j + 1))) := by
                  show Quote.ok _
                  rw [Hps.out]; exact Quote.ok_snoc HK.out (Or.inr (by rw [Quote.st_rn, HN.out, hk2]; rfl))
                go_wp2_with fail
                go_roundg (s.size + 1 - (j + 1))
                case measure => exact hmeas
                case rel => exact ⟨j + 1, by go_num, rfl, by omega, by omega, rfl, Or.inl ⟨rfl, HK2.out⟩⟩
        · have hji : ¬ (j : Int) < (s.size : Int) := by omega
          have HF : Hid (o = none) := by
            show _ = _
            rw [← Ho.out, ← pfx_end s j (by omega)]
            exact Quote.ok_end HK.out
          go_wp2_with fail
          go_meet
          case rel => exact ⟨rfl, Or.inl ⟨rfl, HF⟩⟩
      · have hq0 : ¬ (q : Int) < 0 := by omega
        by_cases hjs : j < s.size
        · have hji : (j : Int) < (s.size : Int) := by omega
          go_wp2_with fail
          go_meet
          case rel => exact ⟨rfl, Or.inr ⟨q, rfl, hq1, hq, HQ⟩⟩
        · have hji : ¬ (j : Int) < (s.size : Int) := by omega
          go_wp2_with fail
          go_meet
          case rel => exact ⟨rfl, Or.inr ⟨q, rfl, hq1, hq, HQ⟩⟩
  case rest =>
    obtain ⟨rfl, h5⟩ := hcut
    rcases h5 with ⟨rfl, HO⟩ | ⟨q, rfl, hq1, hq, HO⟩
    · go_wp2_with fail
      go_ret3
      exact ⟨by rw [HO.out]; rfl, Below.refl _ _⟩
    · have hq0 : ¬ (q : Int) < 0 := by omega
      have hq1i : (1 : Int) ≤ (q : Int) := by omega
      have hqs : (q : Int) ≤ (s.size : Int) := by omega
      have hqI : (q : Int) + 1 ≤ (s.size : Int) := by omega
      have hq0I : 0 ≤ (q : Int) + 1 := by omega
      have hwr : IntKind.i64.wrap ((q : Int) + 1) = (q : Int) + 1 := IntWalk.i64_in _ ⟨by omega, by omega⟩
      have HU : Hid (Quote.un false (s.extract 1 q).data.toList = Quote.un false (pfx s q)) := by
        show _ = _
        rw [pfx_ext]
      have hz : (s.extract 1 q).size ≤ 1048576 := by rw [ByteArray.size_extract]; omega
      have HE : Hid (s.extract (q + 1) s.size = ⟨(s.data.toList.drop (q + 1)).toArray⟩) := ba_list (ext_list s (q + 1))
      go_wp2_with fail
      go_region_with (go_at_call 11; refine (unesc_any _ _ hz _ HU).mono ?_; rintro e w1 ⟨rfl, hbel1⟩)
      all_goals
        go_wp2_with fail
        go_ret3
        refine ⟨?_, ?_⟩
        · rw [HO.out]
          show _ = Ending.returned (.tuple #[.string ⟨(Quote.un false (pfx s q)).toArray⟩, .string ⟨(s.data.toList.drop (q + 1)).toArray⟩, .bool true])
          rw [← HE.out]; rfl
        · exact ((Below.refl _ _).drew).trans hbel1
end Go.Proofs.Qxb6604015a
