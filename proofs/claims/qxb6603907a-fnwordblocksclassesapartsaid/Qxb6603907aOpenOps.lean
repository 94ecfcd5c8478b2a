import Derived.Test.Qxb6603907aScript
import Derived.Deep.SlicePairs
import Derived.Deep.Strs
import Derived.OpenShut
namespace Go.Proofs.Qxb6603907a
open Go.RowKit RowsKit Blocks
open Go.Deep Go.ChangeShapes Go.WideShapes

theorem Try.cells33 : Try.prog.cellsOf 33 = 3 := by kernel_rfl
theorem Try.cells4 : Try.prog.cellsOf 4 = 1 := by kernel_rfl
theorem Try.cells30 : Try.prog.cellsOf 30 = 1 := by kernel_rfl
theorem Try.cells31 : Try.prog.cellsOf 31 = 1 := by kernel_rfl

section
variable {H : Type} {enc : TypeId × Value → H} {w : World} {spare : Nat → Bool} {held : Bool} {base : Nat}

/-- a slice of steps, opened: three cells an element -/
theorem open_steps {fuel : Nat} {cs : List Value} {x : DataW H × List MemPlace} (h : DataW.trod enc Try.prog w base spare held fuel 22 cs = some x) :
    cs = [.slice none 0 0] ∨ ∃ (ad : Addr) (len cap : Nat) (q : Nat → Bool × Int × Int), cs = [.slice (some ad) len cap] ∧ len ≤ cap ∧ cap ≤ maxLen ∧
      ∀ i, i < len → w.cell? (ad.add (i * 3)) = some (.bool (q i).1) ∧ w.cell? (ad.add (i * 3 + 1)) = some (.int .u32 (q i).2.1) ∧ w.cell? (ad.add (i * 3 + 2)) = some (.int .u64 (q i).2.2) ∧ (Lit.int .u32 (q i).2.1).wf = true := by
  rcases open_slice Try.underlying22 h with ⟨h0, _⟩ | ⟨ad, len, cap, m, n, D, Pl, rfl, hb, hl, hm, hmm, rfl, hx⟩
  · exact Or.inl h0
  right
  have hlm : len ≤ m := by rw [hmm]; split <;> omega
  have each : ∀ i, i < len → ∃ q : Bool × Int × Int, w.cell? (ad.add (i * 3)) = some (.bool q.1) ∧ w.cell? (ad.add (i * 3 + 1)) = some (.int .u32 q.2.1) ∧ w.cell? (ad.add (i * 3 + 2)) = some (.int .u64 q.2.2) ∧ (Lit.int .u32 q.2.1).wf = true := by
    intro i hi
    obtain ⟨cs', h1, h2⟩ := hx i (by omega)
    rw [Try.cells33] at h1
    obtain ⟨_, hlen, hcell⟩ := World.cells?_some h1
    obtain ⟨y0, y1, y2, k, _, _, g0, g1, g2⟩ := trod_struct3 Try.underlying33 h2
    match cs', hlen with
    | [v0, v1, v2], _ =>
      simp [Try.cells4, Try.cells30, Try.cells31] at g0 g1 g2
      have e0 := hcell 0 (by omega)
      have e1 := hcell 1 (by omega)
      have e2 := hcell 2 (by omega)
      rw [add_add] at e0 e1 e2
      obtain ⟨p, hp, _⟩ := DataW.trod_bool Try.underlying4 g0
      obtain ⟨z1, hz1, _, hw1⟩ := DataW.trod_int Try.underlying30 g1
      obtain ⟨z2, hz2, _, _⟩ := DataW.trod_int Try.underlying31 g2
      simp only [List.cons.injEq, and_true] at hp hz1 hz2
      subst hp
      subst hz1
      subst hz2
      exact ⟨(p, z1, z2), by simpa using e0, by simpa using e1, by simpa using e2, hw1⟩
  obtain ⟨q, hq⟩ := choose_lt each
  exact ⟨ad, len, cap, q, rfl, hl, hm, hq⟩
end

/-- what the walk is told of a slice of steps that came in -/
def IsSteps (w : World) (a : Option Addr) (len cap : Nat) : Prop :=
  (a = none ∧ len = 0 ∧ cap = 0) ∨ ∃ (ad : Addr) (q : Nat → Bool × Int × Int), a = some ad ∧ len ≤ cap ∧ cap ≤ maxLen ∧
    ∀ i, i < len → w.cell? (ad.add (i * 3)) = some (.bool (q i).1) ∧ w.cell? (ad.add (i * 3 + 1)) = some (.int .u32 (q i).2.1) ∧ w.cell? (ad.add (i * 3 + 2)) = some (.int .u64 (q i).2.2) ∧ (Lit.int .u32 (q i).2.1).wf = true

theorem ops_empty (x : Addr) (cap : Nat) (w : World) : Calls Try.prog 6 #[.slice (some x) 0 cap] w fun e w' => e = .returned (.slice (some ⟨w.heap.size, 0, none⟩) 0 0) ∧ Below w.heap.size w w' := by
  have hmk : ∀ w : World, (Instr.makeSlice 22 (.int .i64 0) (.int .i64 0)).run Try.prog w = .ok (.slice (some ⟨w.heap.size, 0, none⟩) 0 0) (w.alloc (.cells (madeCells #[.bool false, .int .u32 0, .int .u64 0] (0 * 3)) 33)) := fun w => run_make3 0 (by decide) w
  have q := q22
  go_enter Try.func6, Try.ntmps6
  go_wp2_with fail
  go_loopg [4] 1 (fun gk v4 wx => v4 = .int .i64 0 ∧ Hid (Below w.heap.size w wx))
  case atStart => exact ⟨rfl, ⟨rfl, rfl, rfl, by simp, fun x hx => Below.heap_alloc _ _ x hx⟩⟩
  case round =>
    obtain ⟨rfl, HR⟩ := hrel
    go_wp2_with fail
    go_ret
    exact ⟨rfl, HR.out⟩

/-- the clone of the steps, whatever came in -/
theorem clone_any {w : World} {a : Option Addr} {n cap : Nat} (h : IsSteps w a n cap) (hn : n ≤ 4096) : ∃ (pu : Nat → Bool) (ar : Nat → Nat) (fi : Nat → Int), (∀ i, ar i ≤ 4294967295) ∧
    Calls Try.prog 6 #[.slice a n cap] w fun e w' => ∃ ao, e = .returned (.slice ao n n) ∧ Hid (OpsIn w' ao n pu ar fi) ∧ Below w.heap.size w w' := by
  rcases h with ⟨rfl, rfl, rfl⟩ | ⟨ad, q, rfl, hlc, hcm, hq⟩
  · refine ⟨fun _ => false, fun _ => 0, fun _ => 0, fun _ => Nat.zero_le _, (ops_nil w).mono ?_⟩
    rintro e w' ⟨rfl, rfl⟩
    exact ⟨none, rfl, (fun h => absurd h (Nat.lt_irrefl 0)), Below.refl _ _⟩
  · rcases Nat.eq_zero_or_pos n with h0 | h0
    · subst h0
      refine ⟨fun _ => false, fun _ => 0, fun _ => 0, fun _ => Nat.zero_le _, (ops_empty ad cap w).mono ?_⟩
      rintro e w' ⟨rfl, hb⟩
      exact ⟨_, rfl, (fun h => absurd h (Nat.lt_irrefl 0)), hb⟩
    · obtain ⟨b, off, spot⟩ := ad
      have hspot : spot = none := by simpa [Addr.add] using World.cell?_spot (hq 0 h0).1
      subst hspot
      have hbl : b < w.heap.size := by
        have q0 := (hq 0 h0).1
        rw [Go.WideShapes.add_plain] at q0
        exact World.block_lt_of_cell? w ⟨b, off + 0 * 3, none⟩ q0
      have hbd : ∀ i, i < n → 0 ≤ (q i).2.1 ∧ (q i).2.1 ≤ 4294967295 := fun i hi => bounds_u32 (hq i hi).2.2.2
      refine ⟨fun i => (q i).1, fun i => if i < n then (q i).2.1.toNat else 0, fun i => (q i).2.2, ?_, ?_⟩
      · intro i
        show (if i < n then (q i).2.1.toNat else 0) ≤ 4294967295
        split
        · rename_i hi
          have := hbd i hi
          omega
        · decide
      · have hcell : Ops3 w b off n (fun i => (q i).1) (fun i => (((if i < n then (q i).2.1.toNat else 0 : Nat)) : Int)) (fun i => (q i).2.2) := by
          intro i hi
          obtain ⟨k0, k1, k2, _⟩ := hq i hi
          rw [Go.WideShapes.add_plain] at k0 k1 k2
          refine ⟨k0, ?_, ?_⟩
          · rw [Nat.add_assoc, k1]
            show _ = some (Value.int .u32 (((if i < n then (q i).2.1.toNat else 0 : Nat)) : Int))
            rw [if_pos hi, Int.toNat_of_nonneg (hbd i hi).1]
          · rw [Nat.add_assoc, k2]
        refine (ops_some w b off n cap _ _ _ (by omega) hcell (fun _ => hbl)).mono ?_
        rintro e w' ⟨rfl, hG, ⟨cur, hcur, hsz⟩, hb⟩
        refine ⟨_, rfl, ?_, hb⟩
        intro _
        have hH : H33 w' w.heap.size cur := hcur
        refine ⟨w.heap.size, cur, rfl, hH, ?_⟩
        intro i hi
        obtain ⟨k0, k1, k2⟩ := hG i hi
        rw [hH.cell] at k0 k1 k2
        exact ⟨k0, k1, k2⟩
end Go.Proofs.Qxb6603907a
