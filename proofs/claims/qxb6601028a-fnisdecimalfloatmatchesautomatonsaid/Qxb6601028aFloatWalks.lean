import Derived.Test.Qxb6601028aProg
import Derived.Test.Qxb6601028aFloatPlain
import Derived.WalkKit
import Derived.WalkSpells
import Derived.WalkLawsBesides
import Derived.Deep.DeepCutAuto
import Derived.Deep.Light
namespace Go.Proofs.Qxb6601028a
open Go.RowKit

theorem ret_int {k : IntKind} {a b : Int} (h : a = b) : Ending.returned (.int k a) = .returned (.int k b) := by rw [h]
theorem ret_bool {a b : Bool} (h : a = b) : Ending.returned (.bool a) = .returned (.bool b) := by rw [h]

theorem dig_yes {c : UInt8} (h1 : 48 ≤ (c.toNat : Int)) (h2 : (c.toNat : Int) ≤ 57) : FloatPlain.dig c = true := by simp [FloatPlain.dig, h1, h2]
theorem dig_lo {c : UInt8} (h1 : (c.toNat : Int) < 48) : FloatPlain.dig c = false := by simp [FloatPlain.dig]; omega
theorem dig_hi {c : UInt8} (h1 : 57 < (c.toNat : Int)) : FloatPlain.dig c = false := by simp [FloatPlain.dig]; omega

theorem cnt_next (s : ByteArray) (k : Nat) (h : k < s.size) (hd : FloatPlain.dig s[k] = true) : FloatPlain.cnt (s.data.toList.drop k) = FloatPlain.cnt (s.data.toList.drop (k + 1)) + 1 :=
  FloatPlain.cnt_drop s.data.toList k (by simpa using h) hd
theorem cnt_end (s : ByteArray) (k : Nat) (h : k < s.size) (hd : FloatPlain.dig s[k] = false) : FloatPlain.cnt (s.data.toList.drop k) = 0 :=
  FloatPlain.cnt_stop s.data.toList k (by simpa using h) hd

set_option maxHeartbeats 400000 in
theorem count_any (s : ByteArray) (w : World) (hs : s.size ≤ maxLen) :
    Calls Try.prog 39 #[.string s] w fun e w' => e = .returned (.int .i64 (FloatPlain.cnt s.data.toList)) ∧ w' = w := by
  unfold maxLen at hs
  go_enter Try.func39, Try.ntmps39
  go_wp2
  go_loop [3] (fun i => ∃ k : Nat, k ≤ s.size ∧ i = .int .i64 k ∧ Hid (FloatPlain.cnt s.data.toList = k + FloatPlain.cnt (s.data.toList.drop k))) (fun i => s.size - (intOf i).toNat)
  case atStart => exact ⟨0, Nat.zero_le _, rfl, by simp [Hid]⟩
  case round =>
    obtain ⟨k, hk, rfl, hc⟩ := hrel
    by_cases hlt : k < s.size
    · go_wp2
      · go_round
        case rel =>
          refine ⟨k + 1, by omega, by go_num, ?_⟩
          have h1 := cnt_next s k hlt (dig_yes (by assumption) (by assumption))
          have h2 := hc.out
          unfold Hid; omega
        case measure => simp [intOf]; omega
      · go_ret
        have h1 := cnt_end s k hlt (dig_hi (by assumption))
        have h2 := hc.out
        exact ⟨ret_int (by omega), rfl⟩
      · go_ret
        have h1 := cnt_end s k hlt (dig_lo (by assumption))
        have h2 := hc.out
        exact ⟨ret_int (by omega), rfl⟩
    · go_wp2
      go_ret
      refine ⟨ret_int ?_, rfl⟩
      rw [hc.out, List.drop_of_length_le (by simp; omega)]
      simp [FloatPlain.cnt]

theorem stp_close {st : Nat} {n r : Int} {c : UInt8} (hst : st ≤ 8) (hn : (c.toNat : Int) = n)
    (h : (if st = 0 then (if n = 45 ∨ n = 43 then 1 else if 48 ≤ n ∧ n ≤ 57 then 2 else if n = 46 then 3 else -1)
      else if st = 1 then (if 48 ≤ n ∧ n ≤ 57 then 2 else if n = 46 then 3 else -1)
      else if st = 2 then (if 48 ≤ n ∧ n ≤ 57 then 2 else if n = 46 then 4 else if n = 101 ∨ n = 69 then 6 else -1)
      else if st = 3 then (if 48 ≤ n ∧ n ≤ 57 then 4 else -1)
      else if st = 4 then (if 48 ≤ n ∧ n ≤ 57 then 4 else if n = 101 ∨ n = 69 then 6 else -1)
      else if st = 6 then (if n = 45 ∨ n = 43 then 7 else if 48 ≤ n ∧ n ≤ 57 then 8 else -1)
      else if st = 7 then (if 48 ≤ n ∧ n ≤ 57 then 8 else -1)
      else if st = 8 then (if 48 ≤ n ∧ n ≤ 57 then 8 else -1) else (-1 : Int)) = r) : r = FloatPlain.stp st c := by
  subst hn
  rw [← h]
  unfold FloatPlain.stp FloatPlain.sgn FloatPlain.dig FloatPlain.exq FloatPlain.dot
  simp only [Bool.or_eq_true, Bool.and_eq_true, decide_eq_true_eq, beq_iff_eq]
  have h : st = 0 ∨ st = 1 ∨ st = 2 ∨ st = 3 ∨ st = 4 ∨ st = 5 ∨ st = 6 ∨ st = 7 ∨ st = 8 := by omega
  rcases h with rfl | rfl | rfl | rfl | rfl | rfl | rfl | rfl | rfl <;> simp

set_option maxHeartbeats 2000000 in
theorem step_any (st : Nat) (c : UInt8) (w : World) (hst : st ≤ 8) :
    Calls Try.prog 30 #[.int .i64 st, .int .u8 c.toNat] w fun e w' => e = .returned (.int .i64 (FloatPlain.stp st c)) ∧ w' = w := by
  have h : st = 0 ∨ st = 1 ∨ st = 2 ∨ st = 3 ∨ st = 4 ∨ st = 5 ∨ st = 6 ∨ st = 7 ∨ st = 8 := by omega
  rcases h with rfl | rfl | rfl | rfl | rfl | rfl | rfl | rfl | rfl
  all_goals
    go_enter Try.func30, Try.ntmps30
    go_wp2
    all_goals
      go_ret
      refine ⟨ret_int (stp_close hst rfl ?_), rfl⟩
      go_light
      try simp only [beq_iff_eq, beq_eq_false_iff_ne, ne_eq] at *
      first | (simp; done) | (simp; omega)
end Go.Proofs.Qxb6601028a
