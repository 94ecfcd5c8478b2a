import Derived.Test.Qxb6603907aApartMem
namespace Go.Proofs.Qxb6603907a.fnWordBlocksClassesApart
open Go.RowKit RowsKit Blocks
set_option linter.unusedVariables false

theorem shl4096 (n c p : Nat) (hp : p = n * 2 ^ c) (hn : n ≤ 4096) (hc : c ≤ 20) : wrap64 ((n : Int) * 2 ^ c) = (p : Int) ∧ IntKind.i64.wrap ((n : Int) * 2 ^ c) = (p : Int) := by
  have e : (n : Int) * 2 ^ c = (p : Int) := by rw [hp]; exact shl_int n c (2 ^ c) rfl
  have hb : p ≤ 4096 * 1048576 := by rw [hp]; exact Nat.mul_le_mul hn (pow_le c hc)
  rw [e]
  exact ⟨w64_nat p (by omega), k64_nat p (by omega)⟩
set_option maxRecDepth 100000 in
theorem earlyA1 (c1 c2 s1 s2 so n1 k1 n2 k2 : Nat) (a5 a6 : Option Addr) (w : World) (hA1 : (4096 : Int) < (n1 : Int)) : Calls Try.prog 4 #[.int .u8 c1, .int .u8 c2, .int .u8 s1, .int .u8 s2, .int .u8 so, .slice a5 n1 k1, .slice a6 n2 k2] w fun e w' => e = .returned (.bool true) ∧ Below w.heap.size w w' := by
  go_enter Try.func4, Try.ntmps4
  go_wp2_with fail
  refine (bytes4 _ _ _ _ _ _ _ _ _ _ _ _).mono ?_
  rintro _ w0 ⟨⟨bb, rfl⟩, hw0⟩
  rw [hw0]
  clear hw0
  cases bb
  · go_wp2_with fail
    go_ret
    exact ⟨rfl, Below.refl _ _⟩
  · go_wp2_with fail
    go_ret
    exact ⟨rfl, Below.refl _ _⟩
set_option maxRecDepth 100000 in
theorem earlyA2 (c1 c2 s1 s2 so n1 k1 n2 k2 : Nat) (a5 a6 : Option Addr) (w : World) (hA1 : ¬ (4096 : Int) < (n1 : Int)) (hA2 : (4096 : Int) < (n2 : Int)) : Calls Try.prog 4 #[.int .u8 c1, .int .u8 c2, .int .u8 s1, .int .u8 s2, .int .u8 so, .slice a5 n1 k1, .slice a6 n2 k2] w fun e w' => e = .returned (.bool true) ∧ Below w.heap.size w w' := by
  go_enter Try.func4, Try.ntmps4
  go_wp2_with fail
  refine (bytes4 _ _ _ _ _ _ _ _ _ _ _ _).mono ?_
  rintro _ w0 ⟨⟨bb, rfl⟩, hw0⟩
  rw [hw0]
  clear hw0
  cases bb
  · go_wp2_with fail
    go_ret
    exact ⟨rfl, Below.refl _ _⟩
  · go_wp2_with fail
    go_ret
    exact ⟨rfl, Below.refl _ _⟩
set_option maxRecDepth 100000 in
theorem earlyB1 (c1 c2 s1 s2 so n1 k1 n2 k2 : Nat) (a5 a6 : Option Addr) (w : World) (hA1 : ¬ (4096 : Int) < (n1 : Int)) (hA2 : ¬ (4096 : Int) < (n2 : Int)) (hB1 : (20 : Int) < (c1 : Int)) : Calls Try.prog 4 #[.int .u8 c1, .int .u8 c2, .int .u8 s1, .int .u8 s2, .int .u8 so, .slice a5 n1 k1, .slice a6 n2 k2] w fun e w' => e = .returned (.bool true) ∧ Below w.heap.size w w' := by
  go_enter Try.func4, Try.ntmps4
  go_wp2_with fail
  refine (bytes4 _ _ _ _ _ _ _ _ _ _ _ _).mono ?_
  rintro _ w0 ⟨⟨bb, rfl⟩, hw0⟩
  rw [hw0]
  clear hw0
  cases bb
  · go_wp2_with fail
    go_ret
    exact ⟨rfl, Below.refl _ _⟩
  · go_wp2_with fail
    go_ret
    exact ⟨rfl, Below.refl _ _⟩
set_option maxRecDepth 100000 in
theorem earlyB2 (c1 c2 s1 s2 so n1 k1 n2 k2 : Nat) (a5 a6 : Option Addr) (w : World) (hA1 : ¬ (4096 : Int) < (n1 : Int)) (hA2 : ¬ (4096 : Int) < (n2 : Int)) (hB1 : ¬ (20 : Int) < (c1 : Int)) (hB2 : (20 : Int) < (c2 : Int)) : Calls Try.prog 4 #[.int .u8 c1, .int .u8 c2, .int .u8 s1, .int .u8 s2, .int .u8 so, .slice a5 n1 k1, .slice a6 n2 k2] w fun e w' => e = .returned (.bool true) ∧ Below w.heap.size w w' := by
  go_enter Try.func4, Try.ntmps4
  go_wp2_with fail
  refine (bytes4 _ _ _ _ _ _ _ _ _ _ _ _).mono ?_
  rintro _ w0 ⟨⟨bb, rfl⟩, hw0⟩
  rw [hw0]
  clear hw0
  cases bb
  · go_wp2_with fail
    go_ret
    exact ⟨rfl, Below.refl _ _⟩
  · go_wp2_with fail
    go_ret
    exact ⟨rfl, Below.refl _ _⟩
set_option maxRecDepth 100000 in
theorem earlyB3 (c1 c2 s1 s2 so n1 k1 n2 k2 : Nat) (a5 a6 : Option Addr) (w : World) (hA1 : ¬ (4096 : Int) < (n1 : Int)) (hA2 : ¬ (4096 : Int) < (n2 : Int)) (hB1 : ¬ (20 : Int) < (c1 : Int)) (hB2 : ¬ (20 : Int) < (c2 : Int)) (hB3 : (20 : Int) < (s1 : Int)) : Calls Try.prog 4 #[.int .u8 c1, .int .u8 c2, .int .u8 s1, .int .u8 s2, .int .u8 so, .slice a5 n1 k1, .slice a6 n2 k2] w fun e w' => e = .returned (.bool true) ∧ Below w.heap.size w w' := by
  go_enter Try.func4, Try.ntmps4
  go_wp2_with fail
  refine (bytes4 _ _ _ _ _ _ _ _ _ _ _ _).mono ?_
  rintro _ w0 ⟨⟨bb, rfl⟩, hw0⟩
  rw [hw0]
  clear hw0
  cases bb
  · go_wp2_with fail
    go_ret
    exact ⟨rfl, Below.refl _ _⟩
  · go_wp2_with fail
    go_ret
    exact ⟨rfl, Below.refl _ _⟩
set_option maxRecDepth 100000 in
theorem earlyB4 (c1 c2 s1 s2 so n1 k1 n2 k2 : Nat) (a5 a6 : Option Addr) (w : World) (hA1 : ¬ (4096 : Int) < (n1 : Int)) (hA2 : ¬ (4096 : Int) < (n2 : Int)) (hB1 : ¬ (20 : Int) < (c1 : Int)) (hB2 : ¬ (20 : Int) < (c2 : Int)) (hB3 : ¬ (20 : Int) < (s1 : Int)) (hB4 : (20 : Int) < (s2 : Int)) : Calls Try.prog 4 #[.int .u8 c1, .int .u8 c2, .int .u8 s1, .int .u8 s2, .int .u8 so, .slice a5 n1 k1, .slice a6 n2 k2] w fun e w' => e = .returned (.bool true) ∧ Below w.heap.size w w' := by
  go_enter Try.func4, Try.ntmps4
  go_wp2_with fail
  refine (bytes4 _ _ _ _ _ _ _ _ _ _ _ _).mono ?_
  rintro _ w0 ⟨⟨bb, rfl⟩, hw0⟩
  rw [hw0]
  clear hw0
  cases bb
  · go_wp2_with fail
    go_ret
    exact ⟨rfl, Below.refl _ _⟩
  · go_wp2_with fail
    go_ret
    exact ⟨rfl, Below.refl _ _⟩
set_option maxRecDepth 100000 in
theorem earlyB5 (c1 c2 s1 s2 so n1 k1 n2 k2 : Nat) (a5 a6 : Option Addr) (w : World) (hA1 : ¬ (4096 : Int) < (n1 : Int)) (hA2 : ¬ (4096 : Int) < (n2 : Int)) (hB1 : ¬ (20 : Int) < (c1 : Int)) (hB2 : ¬ (20 : Int) < (c2 : Int)) (hB3 : ¬ (20 : Int) < (s1 : Int)) (hB4 : ¬ (20 : Int) < (s2 : Int)) (hB5 : (20 : Int) < (so : Int)) : Calls Try.prog 4 #[.int .u8 c1, .int .u8 c2, .int .u8 s1, .int .u8 s2, .int .u8 so, .slice a5 n1 k1, .slice a6 n2 k2] w fun e w' => e = .returned (.bool true) ∧ Below w.heap.size w w' := by
  go_enter Try.func4, Try.ntmps4
  go_wp2_with fail
  refine (bytes4 _ _ _ _ _ _ _ _ _ _ _ _).mono ?_
  rintro _ w0 ⟨⟨bb, rfl⟩, hw0⟩
  rw [hw0]
  clear hw0
  cases bb
  · go_wp2_with fail
    go_ret
    exact ⟨rfl, Below.refl _ _⟩
  · go_wp2_with fail
    go_ret
    exact ⟨rfl, Below.refl _ _⟩
set_option maxRecDepth 100000 in
theorem earlyC1 (c1 c2 s1 s2 so n1 k1 n2 k2 : Nat) (a5 a6 : Option Addr) (w : World) (hA1 : ¬ (4096 : Int) < (n1 : Int)) (hA2 : ¬ (4096 : Int) < (n2 : Int)) (hB1 : ¬ (20 : Int) < (c1 : Int)) (hB2 : ¬ (20 : Int) < (c2 : Int)) (hB3 : ¬ (20 : Int) < (s1 : Int)) (hB4 : ¬ (20 : Int) < (s2 : Int)) (hB5 : ¬ (20 : Int) < (so : Int)) (hC1 : ((c1 : Int) == (c2 : Int)) = true) : Calls Try.prog 4 #[.int .u8 c1, .int .u8 c2, .int .u8 s1, .int .u8 s2, .int .u8 so, .slice a5 n1 k1, .slice a6 n2 k2] w fun e w' => e = .returned (.bool true) ∧ Below w.heap.size w w' := by
  go_enter Try.func4, Try.ntmps4
  go_wp2_with fail
  refine (bytes4 _ _ _ _ _ _ _ _ _ _ _ _).mono ?_
  rintro _ w0 ⟨⟨bb, rfl⟩, hw0⟩
  rw [hw0]
  clear hw0
  cases bb
  · go_wp2_with fail
    go_ret
    exact ⟨rfl, Below.refl _ _⟩
  · go_wp2_with fail
    go_ret
    exact ⟨rfl, Below.refl _ _⟩
set_option maxRecDepth 100000 in
theorem earlyC2 (c1 c2 s1 s2 so n1 k1 n2 k2 : Nat) (a5 a6 : Option Addr) (w : World) (hA1 : ¬ (4096 : Int) < (n1 : Int)) (hA2 : ¬ (4096 : Int) < (n2 : Int)) (hB1 : ¬ (20 : Int) < (c1 : Int)) (hB2 : ¬ (20 : Int) < (c2 : Int)) (hB3 : ¬ (20 : Int) < (s1 : Int)) (hB4 : ¬ (20 : Int) < (s2 : Int)) (hB5 : ¬ (20 : Int) < (so : Int)) (hC1 : ((c1 : Int) == (c2 : Int)) = false) (hC2 : (s1 : Int) < (c1 : Int)) : Calls Try.prog 4 #[.int .u8 c1, .int .u8 c2, .int .u8 s1, .int .u8 s2, .int .u8 so, .slice a5 n1 k1, .slice a6 n2 k2] w fun e w' => e = .returned (.bool true) ∧ Below w.heap.size w w' := by
  go_enter Try.func4, Try.ntmps4
  go_wp2_with fail
  refine (bytes4 _ _ _ _ _ _ _ _ _ _ _ _).mono ?_
  rintro _ w0 ⟨⟨bb, rfl⟩, hw0⟩
  rw [hw0]
  clear hw0
  cases bb
  · go_wp2_with fail
    go_ret
    exact ⟨rfl, Below.refl _ _⟩
  · go_wp2_with fail
    go_ret
    exact ⟨rfl, Below.refl _ _⟩
set_option maxRecDepth 100000 in
theorem earlyC3 (c1 c2 s1 s2 so n1 k1 n2 k2 : Nat) (a5 a6 : Option Addr) (w : World) (hA1 : ¬ (4096 : Int) < (n1 : Int)) (hA2 : ¬ (4096 : Int) < (n2 : Int)) (hB1 : ¬ (20 : Int) < (c1 : Int)) (hB2 : ¬ (20 : Int) < (c2 : Int)) (hB3 : ¬ (20 : Int) < (s1 : Int)) (hB4 : ¬ (20 : Int) < (s2 : Int)) (hB5 : ¬ (20 : Int) < (so : Int)) (hC1 : ((c1 : Int) == (c2 : Int)) = false) (hC2 : ¬ (s1 : Int) < (c1 : Int)) (hC3 : (s2 : Int) < (c2 : Int)) : Calls Try.prog 4 #[.int .u8 c1, .int .u8 c2, .int .u8 s1, .int .u8 s2, .int .u8 so, .slice a5 n1 k1, .slice a6 n2 k2] w fun e w' => e = .returned (.bool true) ∧ Below w.heap.size w w' := by
  go_enter Try.func4, Try.ntmps4
  go_wp2_with fail
  refine (bytes4 _ _ _ _ _ _ _ _ _ _ _ _).mono ?_
  rintro _ w0 ⟨⟨bb, rfl⟩, hw0⟩
  rw [hw0]
  clear hw0
  cases bb
  · go_wp2_with fail
    go_ret
    exact ⟨rfl, Below.refl _ _⟩
  · go_wp2_with fail
    go_ret
    exact ⟨rfl, Below.refl _ _⟩
set_option maxRecDepth 100000 in
theorem earlyD1 (c1 c2 s1 s2 so n1 k1 n2 k2 : Nat) (a5 a6 : Option Addr) (w : World) (hA1 : ¬ (4096 : Int) < (n1 : Int)) (hA2 : ¬ (4096 : Int) < (n2 : Int)) (hB1 : ¬ (20 : Int) < (c1 : Int)) (hB2 : ¬ (20 : Int) < (c2 : Int)) (hB3 : ¬ (20 : Int) < (s1 : Int)) (hB4 : ¬ (20 : Int) < (s2 : Int)) (hB5 : ¬ (20 : Int) < (so : Int)) (hC1 : ((c1 : Int) == (c2 : Int)) = false) (hC2 : ¬ (s1 : Int) < (c1 : Int)) (hC3 : ¬ (s2 : Int) < (c2 : Int)) (p1 p2 : Nat) (hp1 : Hid (p1 = n1 * 2 ^ c2)) (hp2 : Hid (p2 = n2 * 2 ^ c1)) (hD1 : (1048576 : Int) < (p2 : Int)) : Calls Try.prog 4 #[.int .u8 c1, .int .u8 c2, .int .u8 s1, .int .u8 s2, .int .u8 so, .slice a5 n1 k1, .slice a6 n2 k2] w fun e w' => e = .returned (.bool true) ∧ Below w.heap.size w w' := by
  have hk0 : (0 : Int) ≤ (c1 : Int) := by omega
  have hk1 : (c1 : Int) ≤ 64 := by omega
  have hk2 : (0 : Int) ≤ (c2 : Int) := by omega
  have hk3 : (c2 : Int) ≤ 64 := by omega
  have hm3 : ∀ x : Int, x = (n2 : Int) → wrap64 (x * 2 ^ c1) = (p2 : Int) := fun x hx => by rw [hx]; exact (shl4096 n2 c1 p2 hp2.out (by omega) (by omega)).1
  have hm4 : ∀ x : Int, x = (n2 : Int) → IntKind.i64.wrap (x * 2 ^ c1) = (p2 : Int) := fun x hx => by rw [hx]; exact (shl4096 n2 c1 p2 hp2.out (by omega) (by omega)).2
  have hm1 : ∀ x : Int, x = (n1 : Int) → wrap64 (x * 2 ^ c2) = (p1 : Int) := fun x hx => by rw [hx]; exact (shl4096 n1 c2 p1 hp1.out (by omega) (by omega)).1
  have hm2 : ∀ x : Int, x = (n1 : Int) → IntKind.i64.wrap (x * 2 ^ c2) = (p1 : Int) := fun x hx => by rw [hx]; exact (shl4096 n1 c2 p1 hp1.out (by omega) (by omega)).2
  go_enter Try.func4, Try.ntmps4
  go_wp2_with fail
  refine (bytes4 _ _ _ _ _ _ _ _ _ _ _ _).mono ?_
  rintro _ w0 ⟨⟨bb, rfl⟩, hw0⟩
  rw [hw0]
  clear hw0
  cases bb
  · go_wp2_with fail
    go_ret
    exact ⟨rfl, Below.refl _ _⟩
  · go_wp2_with fail
    go_ret
    exact ⟨rfl, Below.refl _ _⟩
set_option maxRecDepth 100000 in
theorem earlyD2 (c1 c2 s1 s2 so n1 k1 n2 k2 : Nat) (a5 a6 : Option Addr) (w : World) (hA1 : ¬ (4096 : Int) < (n1 : Int)) (hA2 : ¬ (4096 : Int) < (n2 : Int)) (hB1 : ¬ (20 : Int) < (c1 : Int)) (hB2 : ¬ (20 : Int) < (c2 : Int)) (hB3 : ¬ (20 : Int) < (s1 : Int)) (hB4 : ¬ (20 : Int) < (s2 : Int)) (hB5 : ¬ (20 : Int) < (so : Int)) (hC1 : ((c1 : Int) == (c2 : Int)) = false) (hC2 : ¬ (s1 : Int) < (c1 : Int)) (hC3 : ¬ (s2 : Int) < (c2 : Int)) (p1 p2 : Nat) (hp1 : Hid (p1 = n1 * 2 ^ c2)) (hp2 : Hid (p2 = n2 * 2 ^ c1)) (hD1 : ¬ (1048576 : Int) < (p2 : Int)) (hD2 : (1048576 : Int) < (p1 : Int)) : Calls Try.prog 4 #[.int .u8 c1, .int .u8 c2, .int .u8 s1, .int .u8 s2, .int .u8 so, .slice a5 n1 k1, .slice a6 n2 k2] w fun e w' => e = .returned (.bool true) ∧ Below w.heap.size w w' := by
  have hk0 : (0 : Int) ≤ (c1 : Int) := by omega
  have hk1 : (c1 : Int) ≤ 64 := by omega
  have hk2 : (0 : Int) ≤ (c2 : Int) := by omega
  have hk3 : (c2 : Int) ≤ 64 := by omega
  have hm3 : ∀ x : Int, x = (n2 : Int) → wrap64 (x * 2 ^ c1) = (p2 : Int) := fun x hx => by rw [hx]; exact (shl4096 n2 c1 p2 hp2.out (by omega) (by omega)).1
  have hm4 : ∀ x : Int, x = (n2 : Int) → IntKind.i64.wrap (x * 2 ^ c1) = (p2 : Int) := fun x hx => by rw [hx]; exact (shl4096 n2 c1 p2 hp2.out (by omega) (by omega)).2
  have hm1 : ∀ x : Int, x = (n1 : Int) → wrap64 (x * 2 ^ c2) = (p1 : Int) := fun x hx => by rw [hx]; exact (shl4096 n1 c2 p1 hp1.out (by omega) (by omega)).1
  have hm2 : ∀ x : Int, x = (n1 : Int) → IntKind.i64.wrap (x * 2 ^ c2) = (p1 : Int) := fun x hx => by rw [hx]; exact (shl4096 n1 c2 p1 hp1.out (by omega) (by omega)).2
  go_enter Try.func4, Try.ntmps4
  go_wp2_with fail
  refine (bytes4 _ _ _ _ _ _ _ _ _ _ _ _).mono ?_
  rintro _ w0 ⟨⟨bb, rfl⟩, hw0⟩
  rw [hw0]
  clear hw0
  cases bb
  · go_wp2_with fail
    go_ret
    exact ⟨rfl, Below.refl _ _⟩
  · go_wp2_with fail
    go_ret
    exact ⟨rfl, Below.refl _ _⟩

end Go.Proofs.Qxb6603907a.fnWordBlocksClassesApart
