import Derived.Test.Qxb6603907aRun
namespace Go.Proofs.Qxb6603907a
open Go.RowKit

set_option maxRecDepth 100000 in
theorem run32_any (w : World) (B off s R m cap g q r n C : Nat) (i : Int) (hi : Hid (i = ((q * C + r : Nat) : Int))) (hC : Hid (C = 2 ^ s)) (hs : s ≤ 20) (hr : r + n ≤ C) (hn : 0 < n) (hq : q < m) (hm : m * C ≤ 1073741824)
    (h0 : w.cell? ⟨B, off, none⟩ = some (.int .u8 s)) (h1 : w.cell? ⟨B, off + 1, none⟩ = some (.slice (some ⟨R, 0, none⟩) m cap)) (h2 : w.cell? ⟨R, q, none⟩ = some (.slice (some ⟨g, 0, none⟩) C C)) :
    Calls Try.prog 28 #[.pointer (some ⟨B, off, none⟩), .int .i64 i, .int .i64 n] w fun e w' => e = .returned (.slice (some ⟨g, r, none⟩) n n) ∧ ∃ k, w' = w.drewN k := by
  have hrC : r < C := by omega
  have hs0 : (0 : Int) ≤ (s : Int) := by omega
  have hs1 : (s : Int) ≤ 64 := by omega
  have hCle : C ≤ 1048576 := by rw [hC.out]; exact pow_le s hs
  have hw1 := wrap_pow s C hC.out hs
  have hw2 := wrap_sub1 C hCle
  have hqC : q * C + r < m * C := by
    have h3 : (q + 1) * C ≤ m * C := Nat.mul_le_mul_right C hq
    rw [Nat.add_mul] at h3; omega
  have hmod : (q * C + r) % C = r := by rw [Nat.add_comm, Nat.add_mul_mod_self_right, Nat.mod_eq_of_lt hrC]
  have hdiv : (q * C + r) / C = q := by rw [Nat.add_comm, Nat.add_mul_div_right _ _ (by omega), Nat.div_eq_of_lt hrC, Nat.zero_add]
  have hand : bits .and .i64 i ((C : Int) - 1) = (r : Int) := by rw [hi.out, and_mask _ s C hC.out hs (by omega), hmod]
  have hshr : i / 2 ^ s = (q : Int) := by rw [hi.out, shr_div _ s C hC.out, hdiv]
  have hrn : (r : Int) + (n : Int) ≤ (C : Int) := by omega
  have hwrn : IntKind.i64.wrap ((r : Int) + (n : Int)) = (r : Int) + (n : Int) := IntWalk.i64_in _ ⟨by omega, by omega⟩
  have hqm : (q : Int) < (m : Int) := by omega
  clear hmod hdiv hqC
  go_enter Try.func28, Try.ntmps28
  go_wp2_with fail
  go_quiet (fail)
  have hne : ¬ (r + n = r) := by omega
  have hsub : r + n - r = n := by omega
  go_wp2_with fail
  go_ret
  exact ⟨by show Ending.returned (.slice _ (r + n - r) (r + n - r)) = _; rw [hsub], _, rfl⟩

set_option maxRecDepth 100000 in
theorem at32_any (w : World) (B off s R m cap g q r C : Nat) (i : Int) (hi : Hid (i = ((q * C + r : Nat) : Int))) (hC : Hid (C = 2 ^ s)) (hs : s ≤ 20) (hrC : r < C) (hq : q < m) (hm : m * C ≤ 1073741824)
    (h0 : w.cell? ⟨B, off, none⟩ = some (.int .u8 s)) (h1 : w.cell? ⟨B, off + 1, none⟩ = some (.slice (some ⟨R, 0, none⟩) m cap)) (h2 : w.cell? ⟨R, q, none⟩ = some (.slice (some ⟨g, 0, none⟩) C C)) :
    Calls Try.prog 23 #[.pointer (some ⟨B, off, none⟩), .int .i64 i] w fun e w' => e = .returned (.pointer (some ⟨g, r, none⟩)) ∧ ∃ k, w' = w.drewN k := by
  have hs0 : (0 : Int) ≤ (s : Int) := by omega
  have hs1 : (s : Int) ≤ 64 := by omega
  have hCle : C ≤ 1048576 := by rw [hC.out]; exact pow_le s hs
  have hw1 := wrap_pow s C hC.out hs
  have hwk := wrapk_pow s C hC.out hs
  have hw2 := wrap_sub1 C hCle
  have hwk2 : IntKind.i64.wrap ((C : Int) - 1) = (C : Int) - 1 := IntWalk.i64_in _ ⟨by omega, by omega⟩
  have hqC : q * C + r < m * C := by
    have h3 : (q + 1) * C ≤ m * C := Nat.mul_le_mul_right C hq
    rw [Nat.add_mul] at h3; omega
  have hmod : (q * C + r) % C = r := by rw [Nat.add_comm, Nat.add_mul_mod_self_right, Nat.mod_eq_of_lt hrC]
  have hdiv : (q * C + r) / C = q := by rw [Nat.add_comm, Nat.add_mul_div_right _ _ (by omega), Nat.div_eq_of_lt hrC, Nat.zero_add]
  have hand : bits .and .i64 i ((C : Int) - 1) = (r : Int) := by rw [hi.out, and_mask _ s C hC.out hs (by omega), hmod]
  have hshr : i / 2 ^ s = (q : Int) := by rw [hi.out, shr_div _ s C hC.out, hdiv]
  have hqm : (q : Int) < (m : Int) := by omega
  have hrCi : (r : Int) < (C : Int) := by omega
  clear hmod hdiv hqC
  go_enter Try.func23, Try.ntmps23
  go_wp2_with fail
  go_quiet (fail)
  go_wp2_with fail
  go_ret
  exact ⟨rfl, _, rfl⟩
end Go.Proofs.Qxb6603907a
