import Derived.Test.Qxb6603907aRowsKit
import Derived.Test.Qxb6603907aProg
import Derived.WalkKit
import Derived.BigQuiet
import Derived.Deep.Light
import Derived.Deep.QuietTactic
import Derived.Below
namespace Go.Proofs.Qxb6603907a
open Go.RowKit

theorem pow_le (s : Nat) (hs : s ≤ 20) : 2 ^ s ≤ 1048576 := Nat.pow_le_pow_right (by decide) hs
theorem pow_pos' (s : Nat) : 0 < 2 ^ s := Nat.pow_pos (by decide)
theorem pow_int (s : Nat) : (2 : Int) ^ s = ((2 ^ s : Nat) : Int) := by simp
theorem wrap_pow (s C : Nat) (hC : C = 2 ^ s) (hs : s ≤ 20) : wrap64 ((2 : Int) ^ s) = (C : Int) := by
  have := pow_le s hs
  rw [pow_int, hC]
  unfold wrap64
  omega
theorem wrapk_pow (s C : Nat) (hC : C = 2 ^ s) (hs : s ≤ 20) : IntKind.i64.wrap ((2 : Int) ^ s) = (C : Int) := by
  have := pow_le s hs
  rw [pow_int, hC, IntKind.wrap_i64]
  omega
theorem wrap_sub1 (C : Nat) (hC : C ≤ 1048576) : wrap64 ((C : Int) - 1) = (C : Int) - 1 := by
  unfold wrap64
  omega
theorem and_mask (i s C : Nat) (hC : C = 2 ^ s) (hs : s ≤ 20) (hi : i < 9223372036854775808) : bits .and .i64 (i : Int) ((C : Int) - 1) = ((i % C : Nat) : Int) := by
  have hp := pow_le s hs
  have hp0 := pow_pos' s
  have hC1 : ((C : Int) - 1) = ((2 ^ s - 1 : Nat) : Int) := by omega
  have h1 : (BitVec.ofInt 64 ((C : Int) - 1)).toNat = 2 ^ s - 1 := by
    rw [hC1, BitVec.ofInt_natCast, BitVec.toNat_ofNat]; omega
  have h2 : (BitVec.ofInt 64 (i : Int)).toNat = i := by
    rw [BitVec.ofInt_natCast, BitVec.toNat_ofNat]; omega
  have key : (BitVec.ofInt 64 (i : Int) &&& BitVec.ofInt 64 ((C : Int) - 1)).toNat = i % 2 ^ s := by
    rw [BitVec.toNat_and, h1, h2, Nat.and_two_pow_sub_one_eq_mod]
  show IntKind.i64.wrap ((BitVec.ofInt 64 (i : Int) &&& BitVec.ofInt 64 ((C : Int) - 1)).toNat : Nat) = _
  rw [key, hC, IntKind.wrap_i64]
  have := Nat.mod_lt i hp0
  omega
theorem shr_div (i s C : Nat) (hC : C = 2 ^ s) : (i : Int) / 2 ^ s = ((i / C : Nat) : Int) := by
  rw [pow_int, hC]; rfl

set_option maxRecDepth 100000 in
theorem run64_any (w : World) (B off s R m cap g q r n C : Nat) (i : Int) (hi : Hid (i = ((q * C + r : Nat) : Int))) (hC : Hid (C = 2 ^ s)) (hs : s ≤ 20) (hr : r + n ≤ C) (hn : 0 < n) (hq : q < m) (hm : m * C ≤ 1073741824)
    (h0 : w.cell? ⟨B, off, none⟩ = some (.int .u8 s)) (h1 : w.cell? ⟨B, off + 1, none⟩ = some (.slice (some ⟨R, 0, none⟩) m cap)) (h2 : w.cell? ⟨R, q, none⟩ = some (.slice (some ⟨g, 0, none⟩) C C)) :
    Calls Try.prog 27 #[.pointer (some ⟨B, off, none⟩), .int .i64 i, .int .i64 n] w fun e w' => e = .returned (.slice (some ⟨g, r, none⟩) n n) ∧ ∃ k, w' = w.drewN k := by
  have hrC : r < C := by omega
  have hs0 : (0 : Int) ≤ (s : Int) := by omega
  have hs1 : (s : Int) ≤ 64 := by omega
  have hCle : C ≤ 1048576 := by rw [hC.out]; exact pow_le s hs
  have hw1 := wrap_pow s C hC.out hs
  have hw2 := wrap_sub1 C hCle
  have hqC : q * C + r < m * C := by
    have h3 : (q + 1) * C ≤ m * C := Nat.mul_le_mul_right C hq
    rw [Nat.add_mul] at h3; omega
  have hmod : (q * C + r) % C = r := by rw [Nat.add_comm, Nat.add_mul_mod_self_right, Nat.mod_eq_of_lt hrC]
  have hdiv : (q * C + r) / C = q := by rw [Nat.add_comm, Nat.add_mul_div_right _ _ (by omega), Nat.div_eq_of_lt hrC, Nat.zero_add]
  have hand : bits .and .i64 i ((C : Int) - 1) = (r : Int) := by rw [hi.out, and_mask _ s C hC.out hs (by omega), hmod]
  have hshr : i / 2 ^ s = (q : Int) := by rw [hi.out, shr_div _ s C hC.out, hdiv]
  have hrn : (r : Int) + (n : Int) ≤ (C : Int) := by omega
  have hwrn : IntKind.i64.wrap ((r : Int) + (n : Int)) = (r : Int) + (n : Int) := IntWalk.i64_in _ ⟨by omega, by omega⟩
  have hqm : (q : Int) < (m : Int) := by omega
  clear hmod hdiv hqC
  go_enter Try.func27, Try.ntmps27
  go_wp2_with fail
  go_quiet (fail)
  have hne : ¬ (r + n = r) := by omega
  have hsub : r + n - r = n := by omega
  go_wp2_with fail
  go_ret
  exact ⟨by show Ending.returned (.slice _ (r + n - r) (r + n - r)) = _; rw [hsub], _, rfl⟩
end Go.Proofs.Qxb6603907a
