import Derived.Test.Qxb6603889aDigitsWalks
import Derived.Laws.BytesArg
namespace Go.Proofs.Qxb6603889a
open Go.RowKit

/-- the array of twenty bytes: from place i on it holds digits -/
def Buf (w wr : World) (i : Nat) : Prop :=
  (∃ cur : Array Value, wr.heap[w.heap.size]? = some (.cells cur 32 (0, 0)) ∧ cur.size = 20 ∧ ∀ t, i ≤ t → t < 20 → ∃ c : Nat, cur[t]? = some (.int .u8 (c : Int)) ∧ 48 ≤ c ∧ c ≤ 57) ∧ Below w.heap.size w wr

theorem Buf.cell {w wr : World} {i : Nat} (h : Buf w wr i) {j : Nat} (hj : j < 20) : ∃ v, wr.cell? ⟨w.heap.size, j, none⟩ = some v := by
  obtain ⟨cur, hc, hs, _⟩ := h.1
  exact ⟨cur[j], by rw [cell_of_row wr w.heap.size j cur 32 (0, 0) hc, Array.getElem?_eq_getElem (by omega)]⟩
theorem Buf.frozen {w wr : World} {i : Nat} (h : Buf w wr i) (j : Nat) : wr.frozen? ⟨w.heap.size, j, none⟩ = false := by
  obtain ⟨cur, hc, _⟩ := h.1
  exact frozen_of_row wr w.heap.size j cur 32 hc
theorem Buf.store {w wr : World} {i : Nat} (h : Buf w wr (i + 1)) (hi : i < 20) (c : Nat) (h1 : 48 ≤ c) (h2 : c ≤ 57) : Buf w (wr.setCell ⟨w.heap.size, i, none⟩ (.int .u8 (c : Int))) i := by
  obtain ⟨cur, hc, hs, hd⟩ := h.1
  refine ⟨⟨_, heap_setCell_same wr w.heap.size i cur 32 _ hc, by simpa using hs, ?_⟩, h.2.setCell (Nat.le_refl _) _⟩
  intro t ht1 ht2
  by_cases e : t = i
  · subst e
    exact ⟨c, by rw [Array.getElem?_setIfInBounds_self, if_pos (by omega)], h1, h2⟩
  · obtain ⟨c', hc', hb⟩ := hd t (by omega) ht2
    exact ⟨c', by rw [Array.getElem?_setIfInBounds_ne (by omega)]; exact hc', hb⟩

/-- the digits from place i on, as a list -/
theorem Buf.read {w wr : World} {i : Nat} (h : Buf w wr i) (hi : i < 20) : ∃ xs : List Int, xs.length = 20 - i ∧ (∀ k, k < 20 - i → wr.cell? ⟨w.heap.size, i + k, none⟩ = some (.int .u8 (xs.getD k 0))) ∧ good (strOfNums xs).data.toList = true := by
  obtain ⟨cur, hc, hs, hd⟩ := h.1
  have hex : ∀ k, ∃ c : Nat, k < 20 - i → cur[i + k]? = some (.int .u8 (c : Int)) ∧ 48 ≤ c ∧ c ≤ 57 := by
    intro k
    by_cases hk : k < 20 - i
    · obtain ⟨c, h1, h2⟩ := hd (i + k) (by omega) (by omega)
      exact ⟨c, fun _ => ⟨h1, h2⟩⟩
    · exact ⟨0, fun h => absurd h hk⟩
  obtain ⟨f, hf⟩ : ∃ f : Nat → Nat, ∀ k, k < 20 - i → cur[i + k]? = some (.int .u8 (f k : Int)) ∧ 48 ≤ f k ∧ f k ≤ 57 := ⟨fun k => Classical.choose (hex k), fun k => Classical.choose_spec (hex k)⟩
  refine ⟨(List.range (20 - i)).map fun k => (f k : Int), by simp, ?_, ?_⟩
  · intro k hk
    rw [cell_of_row wr w.heap.size (i + k) cur 32 (0, 0) hc, (hf k hk).1]
    simp [List.getD, hk]
  · rw [strOfNums_data]
    unfold good
    rw [Bool.and_eq_true]
    constructor
    · rw [List.all_eq_true]
      intro x hx
      rw [List.map_map] at hx
      obtain ⟨k, hk, rfl⟩ := List.mem_map.1 hx
      have hk' := hf k (List.mem_range.1 hk)
      simp only [Function.comp_apply, Int.toNat_natCast]
      have e : (UInt8.ofNat (f k)).toNat = f k := by rw [UInt8.toNat_ofNat']; omega
      unfold isd
      rw [e]
      simp
      omega
    · obtain ⟨z, hz⟩ : ∃ z, 20 - i = z + 1 := ⟨19 - i, by omega⟩
      rw [hz, List.range_succ]; simp

theorem pow_step {v i : Nat} (h : v < 10 ^ (i + 1)) : v / 10 < 10 ^ i := by
  rw [Nat.pow_succ] at h; omega
theorem pow_pos' {v i : Nat} (h : v < 10 ^ i) (hv : v ≠ 0) : 1 ≤ i := by
  cases i with
  | zero => simp at h; omega
  | succ i => omega

theorem len32 : Try.prog.arrayLen 32 = 20 := by kernel_rfl
theorem under32 : Try.prog.underlying 32 = some (.array (Try.prog.arrayLen 32) (Try.prog.elem 32)) := by kernel_rfl
theorem size32 (w : World) : (sizeOf (Try.prog.elem 32)).run Try.prog w = .ok 1 w := by kernel_rfl
theorem slice32 (w : World) (b i : Nat) (hi : i < 20) : (Instr.sliceAt 32 (.pointer (some ⟨b, 0, none⟩)) (some (.int .i64 (i : Int))) none none).run Try.prog w = .ok (.slice (some ⟨b, i, none⟩) (20 - i) (20 - i)) w := by
  rw [run_sliceAt_array_l w 32 ⟨b, 0, none⟩ under32 .i64 (i : Int) (by omega) (by rw [len32]; omega), size32, len32]
  simp only [Result.andThen_ok, slicedAt, Int.toNat_natCast, Nat.mul_one]
  rw [if_neg (by omega), Addr.add_lit, Nat.zero_add]

set_option maxRecDepth 100000 in
set_option maxHeartbeats 1000000 in
theorem utoa_any (n : Nat) (w : World) (hn : n < 18446744073709551616) :
    Calls Try.prog 6 #[.int .u64 n] w fun e w' => ∃ s : ByteArray, e = .returned (.string s) ∧ s.size ≤ 20 ∧ good s.data.toList = true ∧ Below w.heap.size w w' := by
  have Hn : Hid (n < 10 ^ 20) := by show _ < _; omega
  go_enter Try.func6, Try.ntmps6
  go_wp2_with fail
  go_loopg [0, 4] 20 (fun gk v0 v4 wx => ∃ v i : Nat, v0 = .int .u64 v ∧ v4 = .int .i64 ((i + 1 : Nat) : Int) ∧ i ≤ 19 ∧ v < 18446744073709551616 ∧ gk = i + 1 ∧ Hid (v < 10 ^ (i + 1) ∧ Buf w wx (i + 1)))
  case atStart => exact ⟨n, 19, rfl, rfl, by omega, hn, rfl, Hn.out, ⟨_, heap_alloc_new w _, rfl, fun t h1 h2 => by omega⟩, (Below.refl _ _).alloc (Nat.le_refl _) _⟩
  case round =>
    obtain ⟨v, i, rfl, rfl, hi, hv, rfl, HR⟩ := hrel
    obtain ⟨old, hcell⟩ := HR.out.2.cell (j := i) (by omega)
    have hfr := HR.out.2.frozen i
    have hm0 : 0 ≤ (v : Int) % 10 := by omega
    have hm9 : (v : Int) % 10 ≤ 9 := by omega
    have Hst : Hid (Buf w (wr.setCell ⟨w.heap.size, i, none⟩ (.int .u8 (48 + (v : Int) % 10))) i) := by
      have h := HR.out.2.store (by omega) (48 + v % 10) (by omega) (by omega)
      have e : ((48 + v % 10 : Nat) : Int) = 48 + (v : Int) % 10 := by omega
      rw [e] at h
      exact h
    have Hp := pow_step HR.out.1
    have HP : Hid _ := Hp
    clear Hp
    by_cases hz : v / 10 = 0
    · have hz' : ((v : Int) / 10 == 0) = true := by rw [beq_iff_eq]; omega
      obtain ⟨xs, hlen, hcells, hgood⟩ := Hst.out.read (by omega)
      have hconv := run_convert_bytes_arg (P := Try.prog) (wr.setCell ⟨w.heap.size, i, none⟩ (.int .u8 (48 + (v : Int) % 10))) 26 5 Try.underlying26 Try.underlying5 w.heap.size i (20 - i) (20 - i) xs hlen hcells 9 Try.underlying9
      have Hg : Hid _ := hgood
      have Hlen : Hid ((strOfNums xs).size ≤ 20) := by rw [strOfNums_size, hlen]; show _ ≤ _; omega
      have hsl := fun wx => slice32 wx w.heap.size i (by omega)
      clear hlen hcells hgood
      go_wp2_with fail
      go_ret
      exact ⟨strOfNums xs, rfl, Hlen.out, Hg.out, Hst.out.2⟩
    · have hz' : ((v : Int) / 10 == 0) = false := by rw [beq_eq_false_iff_ne]; omega
      have h1i : 1 ≤ i := pow_pos' HP.out hz
      obtain ⟨j, rfl⟩ : ∃ j, i = j + 1 := ⟨i - 1, by omega⟩
      have hv' : v / 10 < 18446744073709551616 := by omega
      have hj : j ≤ 19 := by omega
      go_wp2_with fail
      go_roundg (j + 1)
      case measure => exact Nat.lt_succ_self _
      case rel => exact ⟨v / 10, j, by go_num, rfl, hj, hv', rfl, HP.out, Hst.out⟩
end Go.Proofs.Qxb6603889a
