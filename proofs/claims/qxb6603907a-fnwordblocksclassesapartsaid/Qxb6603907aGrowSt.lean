import Derived.Test.Qxb6603907aMemGrow
import Derived.Test.Qxb6603907aGrow
import Derived.Test.Qxb6603907aGrow32
namespace Go.Proofs.Qxb6603907a
open Go.RowKit RowsKit Blocks

theorem C_pos (d : D) : 0 < d.C := Nat.pow_pos (by decide)
theorem C_le {d : D} (h : d.s ≤ 20) : d.C ≤ 1048576 := pow_le d.s h
theorem len_le {m C : Nat} (hC : 0 < C) (h : m * C ≤ 2097152) : m ≤ 2097152 := Nat.le_trans (Nat.le_mul_of_pos_right m hC) h

theorem room {L n m C : Nat} (hC : 0 < C) (h1 : n ∣ C) (h2 : n ∣ L) (hle : L ≤ m * C) (hne : L / C ≠ m) : L + n ≤ m * C := by
  have hlt : L < m * C := by
    refine Nat.lt_of_le_of_ne hle ?_
    intro e
    exact hne (by rw [e, Nat.mul_div_cancel _ hC])
  obtain ⟨c, rfl⟩ := h1
  obtain ⟨l, rfl⟩ := h2
  have e : m * (n * c) = n * (m * c) := by rw [Nat.mul_left_comm]
  rw [e] at hlt ⊢
  have h3 : l < m * c := Nat.lt_of_mul_lt_mul_left hlt
  have h4 : n * (l + 1) ≤ n * (m * c) := Nat.mul_le_mul_left n h3
  rw [Nat.mul_add, Nat.mul_one] at h4
  exact h4
theorem full {L m C : Nat} (hle : L ≤ m * C) (he : L / C = m) : L = m * C := by
  have := Nat.div_mul_le_self L C
  rw [he] at this
  omega

theorem grow64_st (w : World) (base B off n : Nat) (d : D) (h : Chd 31 29 .u64 w base B off d) (hB : Box w B) (hbB : base ≤ B) (hdC : n ∣ d.C) (hdL : n ∣ d.L) (hL : d.L ≤ 1048576) :
    Calls Try.prog 21 #[.pointer (some ⟨B, off, none⟩), .int .i64 n] w fun e w' => e = .returned (.int .i64 d.L) ∧ ∃ d', Chd 31 29 .u64 w' base B off d' ∧ Step base B off d d' w w' ∧ d'.s = d.s ∧ d'.L = d.L + n ∧ ∀ i, i < d.L → d'.f i = d.f i := by
  have hC := C_pos d
  have hCle := C_le h.hs
  have hnC : n ≤ d.C := Nat.le_of_dvd hC hdC
  have hBlt := hB.lt
  have hml := len_le hC h.hG
  by_cases hq : d.L / d.C = d.Gs.length
  · have hfull := full h.hL hq
    have hLn : d.L + n ≤ (d.Gs.length + 1) * d.C := by rw [Nat.add_mul]; omega
    have hG' : (d.Gs.length + 1) * d.C ≤ 2097152 := by rw [Nat.add_mul]; omega
    refine (grow64_more w base B off d.s d.Gs.length d.cap d.L n d.C d.ao (d.Gs.map (hdr d.C)) rfl h.hs (by omega) (by omega) hml hq hBlt (by omega) h.h0 h.h1 h.h2 hB.frozen h.ck.row (by rw [ownBlock_slice]; exact fun e => h.ck.off_box hB (by decide) (by decide) (Or.inl e))).mono ?_
    rintro e w' ⟨rfl, ao', cap', w2, hown, hg, hnew, rfl⟩
    obtain ⟨r1, r2⟩ := h.more hB hbB (by decide) (by decide) (by decide) n ao' cap' hown hg hnew hLn hG'
    refine ⟨rfl, _, r1, r2, rfl, rfl, ?_⟩
    intro i hi
    show (if i < d.Gs.length * d.C then d.f i else 0) = d.f i
    rw [if_pos (by omega)]
  · have hLn := room hC hdC hdL h.hL hq
    refine (grow64_keep w B off d.s d.Gs.length d.cap (d.L / d.C) d.L n d.C d.ao rfl h.hs (by omega) (by omega) rfl hq h.h0 h.h1 h.h2 (hB.frozen _)).mono ?_
    rintro e w' ⟨rfl, j, rfl⟩
    have hB' : Box (w.drewN j) B := hB.kept rfl
    obtain ⟨r1, r2⟩ := (h.same (w' := w.drewN j) rfl).setLen hB' hbB (by decide) (by decide) (d.L + n) hLn
    exact ⟨rfl, _, r1, (Step.draws hB j).trans r2, rfl, rfl, fun _ _ => rfl⟩

theorem grow32_st (w : World) (base B off n : Nat) (d : D) (h : Chd 30 28 .u32 w base B off d) (hB : Box w B) (hbB : base ≤ B) (hdC : n ∣ d.C) (hdL : n ∣ d.L) (hL : d.L ≤ 1048576) :
    Calls Try.prog 22 #[.pointer (some ⟨B, off, none⟩), .int .i64 n] w fun e w' => e = .returned (.int .i64 d.L) ∧ ∃ d', Chd 30 28 .u32 w' base B off d' ∧ Step base B off d d' w w' ∧ d'.s = d.s ∧ d'.L = d.L + n ∧ ∀ i, i < d.L → d'.f i = d.f i := by
  have hC := C_pos d
  have hCle := C_le h.hs
  have hnC : n ≤ d.C := Nat.le_of_dvd hC hdC
  have hBlt := hB.lt
  have hml := len_le hC h.hG
  by_cases hq : d.L / d.C = d.Gs.length
  · have hfull := full h.hL hq
    have hLn : d.L + n ≤ (d.Gs.length + 1) * d.C := by rw [Nat.add_mul]; omega
    have hG' : (d.Gs.length + 1) * d.C ≤ 2097152 := by rw [Nat.add_mul]; omega
    refine (grow32_more w base B off d.s d.Gs.length d.cap d.L n d.C d.ao (d.Gs.map (hdr d.C)) rfl h.hs (by omega) (by omega) hml hq hBlt (by omega) h.h0 h.h1 h.h2 hB.frozen h.ck.row (by rw [ownBlock_slice]; exact fun e => h.ck.off_box hB (by decide) (by decide) (Or.inl e))).mono ?_
    rintro e w' ⟨rfl, ao', cap', w2, hown, hg, hnew, rfl⟩
    obtain ⟨r1, r2⟩ := h.more hB hbB (by decide) (by decide) (by decide) n ao' cap' hown hg hnew hLn hG'
    refine ⟨rfl, _, r1, r2, rfl, rfl, ?_⟩
    intro i hi
    show (if i < d.Gs.length * d.C then d.f i else 0) = d.f i
    rw [if_pos (by omega)]
  · have hLn := room hC hdC hdL h.hL hq
    refine (grow32_keep w B off d.s d.Gs.length d.cap (d.L / d.C) d.L n d.C d.ao rfl h.hs (by omega) (by omega) rfl hq h.h0 h.h1 h.h2 (hB.frozen _)).mono ?_
    rintro e w' ⟨rfl, j, rfl⟩
    have hB' : Box (w.drewN j) B := hB.kept rfl
    obtain ⟨r1, r2⟩ := (h.same (w' := w.drewN j) rfl).setLen hB' hbB (by decide) (by decide) (d.L + n) hLn
    exact ⟨rfl, _, r1, (Step.draws hB j).trans r2, rfl, rfl, fun _ _ => rfl⟩
end Go.Proofs.Qxb6603907a
