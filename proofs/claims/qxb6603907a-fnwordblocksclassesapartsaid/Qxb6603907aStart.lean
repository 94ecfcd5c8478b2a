import Derived.Test.Qxb6603907aModel
namespace Go.Proofs.Qxb6603907a
open Go.RowKit RowsKit Blocks

/-- the cells of a fresh box -/
def Zeroed (w : World) (B : Nat) : Prop := ∀ k, k < 128 → w.cell? ⟨B, k * 3, none⟩ = some (.int .u8 0) ∧ w.cell? ⟨B, k * 3 + 1, none⟩ = some (.slice none 0 0) ∧ w.cell? ⟨B, k * 3 + 2, none⟩ = some (.int .i64 0)

def Z51 : Array Value := (List.replicate 128 [Value.int .u8 0, Value.slice none 0 0, Value.int .i64 0]).flatten.toArray
theorem Try.zero51 : (Try.prog.info? 51).map (·.zero) = some (some (.agg Z51)) := by kernel_rfl

theorem rep3 (a b c : Value) : ∀ (n k j : Nat), k < n → j < 3 → ((List.replicate n [a, b, c]).flatten)[k * 3 + j]? = [a, b, c][j]?
  | 0, _, _, h, _ => absurd h (Nat.not_lt_zero _)
  | n + 1, 0, j, _, hj => by
    rw [List.replicate_succ, List.flatten_cons, List.getElem?_append_left (by simpa using hj), Nat.zero_mul, Nat.zero_add]
  | n + 1, k + 1, j, h, hj => by
    rw [List.replicate_succ, List.flatten_cons, List.getElem?_append_right (by simp; omega)]
    have e : (k + 1) * 3 + j - [a, b, c].length = k * 3 + j := by simp; omega
    rw [e]
    exact rep3 a b c n k j (by omega) hj
theorem z51_at (k j : Nat) (hk : k < 128) (hj : j < 3) : Z51[k * 3 + j]? = [Value.int .u8 0, Value.slice none 0 0, Value.int .i64 0][j]? := by
  unfold Z51
  rw [List.getElem?_toArray]
  exact rep3 _ _ _ 128 k j hk hj
theorem z51_size : Z51.size = 384 := by
  unfold Z51
  rw [List.size_toArray, List.length_flatten]
  simp

theorem run_zero51 (w : World) : (zeroValue 51).run Try.prog w = .ok (.agg Z51) w := by
  obtain ⟨i, hi, hz⟩ := Option.map_eq_some_iff.1 Try.zero51
  simp [zeroValue, typeInfo, hi, hz]

theorem new_st (w : World) : Calls Try.prog 7 #[] w fun e w' => e = .returned (.pointer (some ⟨w.heap.size, 0, none⟩)) ∧ Zeroed w' w.heap.size ∧ Box w' w.heap.size ∧ Below w.heap.size w w' ∧ w.heap.size < w'.heap.size := by
  have hz := run_zero51
  have HF : Hid (Zeroed (w.alloc (.cells Z51 51)) w.heap.size ∧ Box (w.alloc (.cells Z51 51)) w.heap.size ∧ Below w.heap.size w (w.alloc (.cells Z51 51)) ∧ w.heap.size < (w.alloc (.cells Z51 51)).heap.size) := by
    have hn : (w.alloc (.cells Z51 51)).heap[w.heap.size]? = some (.cells Z51 51 (0, 0)) := heap_alloc_new w _
    have hc : ∀ j, (w.alloc (.cells Z51 51)).cell? ⟨w.heap.size, j, none⟩ = Z51[j]? := by
      intro j
      unfold World.cell?
      rw [hn]
      rfl
    refine ⟨?_, ⟨Z51, hn, z51_size⟩, ⟨rfl, rfl, rfl, by simp, fun x hx => Below.heap_alloc _ _ x hx⟩, by simp⟩
    intro k hk
    refine ⟨?_, ?_, ?_⟩
    · rw [hc]; exact z51_at k 0 hk (by decide)
    · rw [hc]; exact z51_at k 1 hk (by decide)
    · rw [hc]; exact z51_at k 2 hk (by decide)
  go_enter Try.func7, Try.ntmps7
  go_wp2_with fail
  go_ret
  exact ⟨rfl, HF.out.1, HF.out.2.1, HF.out.2.2.1, HF.out.2.2.2⟩

theorem set_st (w : World) (B c s1 s2 : Nat) (hc : c ≤ 20) (x y : Value) (h0 : w.cell? ⟨B, c * 6, none⟩ = some x) (h1 : w.cell? ⟨B, c * 6 + 3, none⟩ = some y) (hf : ∀ o, w.frozen? ⟨B, o, none⟩ = false) :
    Calls Try.prog 8 #[.pointer (some ⟨B, 0, none⟩), .int .u8 c, .int .u8 s1, .int .u8 s2] w fun e w' => e = .returned (.tuple #[]) ∧ w' = (w.setCell ⟨B, c * 6, none⟩ (.int .u8 s1)).setCell ⟨B, c * 6 + 3, none⟩ (.int .u8 s2) := by
  have hs0 : (0 : Int) ≤ (c : Int) := by omega
  have hs2 : (c : Int) < 64 := by omega
  go_enter Try.func8, Try.ntmps8
  go_wp2_with fail
  go_end0
  exact ⟨rfl, rfl⟩

def D0 (s : Nat) : D := ⟨s, none, 0, [], 0, fun _ => 0⟩

theorem chd0 {E SE : TypeId} {k : IntKind} {w : World} {base B off s : Nat} (h0 : w.cell? ⟨B, off, none⟩ = some (.int .u8 s)) (h1 : w.cell? ⟨B, off + 1, none⟩ = some (.slice none 0 0)) (h2 : w.cell? ⟨B, off + 2, none⟩ = some (.int .i64 0)) (hs : s ≤ 20) : Chd E SE k w base B off (D0 s) := by
  have hck : Ck E SE k w base (D0 s) := ⟨nilRow_owned w base SE 1, List.nodup_nil, (fun g hg => absurd hg List.not_mem_nil), (fun q g hq => by simp [D0] at hq)⟩
  refine ⟨h0, h1, h2, hck, hs, Nat.zero_le _, ?_⟩
  show 0 * _ ≤ _
  rw [Nat.zero_mul]
  exact Nat.zero_le _

theorem cl0 {w : World} {base B c s1 s2 : Nat} (hB : Box w B) (hb : base ≤ B) (h0 : w.cell? ⟨B, c * 6, none⟩ = some (.int .u8 s1)) (h1 : w.cell? ⟨B, c * 6 + 1, none⟩ = some (.slice none 0 0)) (h2 : w.cell? ⟨B, c * 6 + 2, none⟩ = some (.int .i64 0))
    (h3 : w.cell? ⟨B, c * 6 + 3, none⟩ = some (.int .u8 s2)) (h4 : w.cell? ⟨B, c * 6 + 4, none⟩ = some (.slice none 0 0)) (h5 : w.cell? ⟨B, c * 6 + 5, none⟩ = some (.int .i64 0)) (hs1 : s1 ≤ 20) (hs2 : s2 ≤ 20) (hc : c ≤ s1) : Cl w base B c 0 (D0 s1) (D0 s2) :=
  ⟨hB, hb, chd0 h0 h1 h2 hs1, chd0 h3 h4 h5 hs2, hc, (Nat.zero_mul _).symm, rfl⟩

theorem d0_bl (s x : Nat) : ¬ (D0 s).bl x := by
  rintro (h | h)
  · cases h
  · cases h

/-- a fresh box, one class set up -/
theorem first_class {w : World} {base B c s1 s2 : Nat} (hZ : Zeroed w B) (hB : Box w B) (hb : base ≤ B) (hc : c ≤ s1) (hs1 : s1 ≤ 20) (hs2 : s2 ≤ 20) :
    Cl ((w.setCell ⟨B, c * 6, none⟩ (.int .u8 s1)).setCell ⟨B, c * 6 + 3, none⟩ (.int .u8 s2)) base B c 0 (D0 s1) (D0 s2) ∧ Below base w ((w.setCell ⟨B, c * 6, none⟩ (.int .u8 s1)).setCell ⟨B, c * 6 + 3, none⟩ (.int .u8 s2)) ∧
    ∀ c2, c2 ≤ 20 → c2 ≠ c → ∀ o, c2 * 6 ≤ o → o ≤ c2 * 6 + 5 → ((w.setCell ⟨B, c * 6, none⟩ (.int .u8 s1)).setCell ⟨B, c * 6 + 3, none⟩ (.int .u8 s2)).cell? ⟨B, o, none⟩ = w.cell? ⟨B, o, none⟩ := by
  have z1 := hZ (c * 2) (by omega)
  have z2 := hZ (c * 2 + 1) (by omega)
  rw [show c * 2 * 3 = c * 6 by omega] at z1
  rw [show (c * 2 + 1) * 3 = c * 6 + 3 by omega] at z2
  refine ⟨cl0 ((hB.set _ _).set _ _) hb ?_ ?_ ?_ ?_ ?_ ?_ hs1 hs2 hc, (below_set _ _ _ hb).trans (below_set _ _ _ hb), ?_⟩
  · rw [World.cell?_setCell_other _ _ _ _ (ne_off (by omega))]
    exact World.cell?_setCell_same _ _ _ z1.1
  · rw [World.cell?_setCell_other _ _ _ _ (ne_off (by omega)), World.cell?_setCell_other _ _ _ _ (ne_off (by omega))]; exact z1.2.1
  · rw [World.cell?_setCell_other _ _ _ _ (ne_off (by omega)), World.cell?_setCell_other _ _ _ _ (ne_off (by omega))]; exact z1.2.2
  · exact World.cell?_setCell_same _ _ _ (by rw [World.cell?_setCell_other _ _ _ _ (ne_off (by omega))]; exact z2.1)
  · rw [World.cell?_setCell_other _ _ _ _ (ne_off (by omega)), World.cell?_setCell_other _ _ _ _ (ne_off (by omega))]; exact z2.2.1
  · rw [World.cell?_setCell_other _ _ _ _ (ne_off (by omega)), World.cell?_setCell_other _ _ _ _ (ne_off (by omega))]; exact z2.2.2
  · intro c2 _ hne o h1 h2
    rw [World.cell?_setCell_other _ _ _ _ (ne_off (by omega)), World.cell?_setCell_other _ _ _ _ (ne_off (by omega))]
end Go.Proofs.Qxb6603907a
