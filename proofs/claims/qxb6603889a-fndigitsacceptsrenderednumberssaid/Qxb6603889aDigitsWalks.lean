import Derived.Test.Qxb6603889aProg
import Derived.WalkKit
import Derived.WalkSpells
import Derived.WalkLawsBesides
import Derived.Deep.DeepCutAuto
import Derived.Deep.Light
import Derived.Laws.IdiomStrings
namespace Go.Proofs.Qxb6603889a
open Go.RowKit

def isd (c : UInt8) : Bool := decide (48 ≤ (c.toNat : Int)) && decide ((c.toNat : Int) ≤ 57)
def good (l : List UInt8) : Bool := l.all isd && !l.isEmpty

theorem ret_bool {a b : Bool} (h : a = b) : Ending.returned (.bool a) = .returned (.bool b) := by rw [h]
theorem len_list (s : ByteArray) : s.data.toList.length = s.size := by rw [Array.length_toList]; rfl
theorem isd_yes {c : UInt8} (h1 : 48 ≤ (c.toNat : Int)) (h2 : (c.toNat : Int) ≤ 57) : isd c = true := by simp [isd, h1, h2]
theorem isd_no {c : UInt8} (h : ¬ (48 ≤ (c.toNat : Int) ∧ (c.toNat : Int) ≤ 57)) : isd c = false := by simp [isd]; omega
theorem all_snoc {s : ByteArray} {k : Nat} (h : k < s.size) (ha : (s.data.toList.take k).all isd = true) (hc : isd (s[k]) = true) : (s.data.toList.take (k + 1)).all isd = true := by
  rw [List.take_succ_eq_append_getElem (by rw [len_list]; exact h), List.all_append, ha]
  show (true && [s[k]].all isd) = true
  simp [hc]
theorem all_not {s : ByteArray} {k : Nat} (h : k < s.size) (hc : isd (s[k]) = false) : good s.data.toList = false := by
  have hm : s[k] ∈ s.data.toList := List.getElem_mem (l := s.data.toList) (n := k) (by rw [len_list]; exact h)
  have : s.data.toList.all isd = false := by
    rw [List.all_eq_false]
    exact ⟨_, hm, by rw [hc]; simp⟩
  unfold good
  rw [this]; rfl

set_option maxHeartbeats 1000000 in
theorem digits_any (s : ByteArray) (w : World) (hs : s.size ≤ maxLen) :
    Calls Try.prog 13 #[.string s] w fun e w' => e = .returned (.bool (good s.data.toList)) ∧ Below w.heap.size w w' := by
  unfold maxLen at hs
  have hcv := fun w s => run_bytes_of_string (P := Try.prog) w 9 26 5 s Try.underlying9 Try.underlying26 Try.underlying5
  have hcell0 : ∀ k (hk : k < s.size), (w.alloc (.cells (bytesRow s (grownCap w s.size 0 5)) 5 ((bytesRow s (grownCap w s.size 0 5)).size, (bytesRow s (grownCap w s.size 0 5)).size + 1))).drew.cell? ⟨w.heap.size, k, none⟩ = some (.int .u8 (s[k].toNat : Int)) := fun k hk => by
    have h := World.cell?_alloc_mark w (bytesRow s (grownCap w s.size 0 5)) 5 ((bytesRow s (grownCap w s.size 0 5)).size, (bytesRow s (grownCap w s.size 0 5)).size + 1) k
    exact h.trans (bytesRow_at s _ k hk)
  have hbel : Below w.heap.size w (w.alloc (.cells (bytesRow s (grownCap w s.size 0 5)) 5 ((bytesRow s (grownCap w s.size 0 5)).size, (bytesRow s (grownCap w s.size 0 5)).size + 1))).drew := ((Below.refl _ _).alloc (Nat.le_refl _) _).drew
  have Hcell : Hid _ := hcell0
  have Hbel : Hid _ := hbel
  clear hcell0 hbel
  go_enter Try.func13, Try.ntmps13
  go_wp2_with fail
  generalize (w.alloc (.cells (bytesRow s (grownCap w s.size 0 5)) 5 ((bytesRow s (grownCap w s.size 0 5)).size, (bytesRow s (grownCap w s.size 0 5)).size + 1))).drew = W1 at *
  generalize grownCap w s.size 0 5 = gc at *
  clear hcv
  go_loopg [4, 8] s.size (fun gk _ v8 wx => ∃ k : Nat, v8 = .int .i64 k ∧ k ≤ s.size ∧ gk = s.size - k ∧ Hid ((s.data.toList.take k).all isd = true) ∧ wx = W1)
  case atStart => exact ⟨0, rfl, Nat.zero_le _, rfl, rfl, rfl⟩
  case round =>
    obtain ⟨k, rfl, hk, rfl, Ha, rfl⟩ := hrel
    by_cases hks : k < s.size
    · have hc := Hcell.out k hks
      have hki : (k : Int) < (s.size : Int) := by omega
      have hmeas : s.size - (k + 1) < s.size - k := by omega
      by_cases hd : 48 ≤ (s[k].toNat : Int) ∧ (s[k].toNat : Int) ≤ 57
      · obtain ⟨hd1, hd2⟩ := hd
        have Ha2 : Hid ((s.data.toList.take (k + 1)).all isd = true) := all_snoc hks Ha.out (isd_yes hd1 hd2)
        go_wp2_with fail
        go_roundg (s.size - (k + 1))
        case measure => exact hmeas
        case rel => exact ⟨k + 1, by go_num, hks, rfl, Ha2, rfl⟩
      · have HF : Hid (good s.data.toList = false) := all_not hks (isd_no hd)
        by_cases h48 : (s[k].toNat : Int) < 48
        · go_wp2_with fail
          go_ret
          exact ⟨ret_bool HF.out.symm, Hbel.out⟩
        · have h57 : 57 < (s[k].toNat : Int) := by omega
          clear hd
          go_wp2_with fail
          go_ret
          exact ⟨ret_bool HF.out.symm, Hbel.out⟩
    · have HF : Hid (good s.data.toList = !s.toList.isEmpty) := by
        show _ = _
        have h := Ha.out
        rw [List.take_of_length_le (by rw [len_list]; omega)] at h
        unfold good
        rw [h, ByteArray.toList_eq]; rfl
      have hki : ¬ (k : Int) < (s.size : Int) := by omega
      go_wp2_with fail
      go_ret
      exact ⟨ret_bool HF.out.symm, Hbel.out⟩

theorem zzdigits_any (s : ByteArray) (w : World) (hs : s.size ≤ maxLen) :
    Calls Try.prog 7 #[.string s] w fun e w' => e = .returned (.bool (good s.data.toList)) ∧ Below w.heap.size w w' := by
  go_enter Try.func7, Try.ntmps7
  go_wp2_with fail
  refine (digits_any s _ hs).mono ?_
  rintro e w1 ⟨rfl, hb⟩
  go_wp2_with fail
  go_ret
  exact ⟨rfl, hb⟩
end Go.Proofs.Qxb6603889a
