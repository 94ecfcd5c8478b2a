import Derived.Test.Qxb6604015aBuilder
import Derived.Test.Qxb6604015aQuotePlain
import Derived.Deep.RegionWith
import Derived.Deep.LoopGhost
import Derived.Deep.Light
namespace Go.Proofs.Qxb6604015a
open Go.RowKit

theorem len_list (s : ByteArray) : s.data.toList.length = s.size := by rw [Array.length_toList]; rfl
theorem ext_list (s : ByteArray) (a : Nat) : (s.extract a s.size).data.toList = s.data.toList.drop a := by
  rw [ByteArray.data_extract, Array.toList_extract, List.extract_eq_take_drop, List.take_of_length_le]
  simp
theorem drop_at (s : ByteArray) (i : Nat) (h : i < s.size) : s.data.toList.drop i = s[i] :: s.data.toList.drop (i + 1) :=
  List.drop_eq_getElem_cons (l := s.data.toList) (i := i) (by rw [len_list]; exact h)
theorem byte_eq (c : UInt8) (n : Nat) (hn : n < 256) : (c == UInt8.ofNat n) = ((c.toNat : Int) == (n : Int)) := by
  rw [Bool.eq_iff_iff, beq_iff_eq, beq_iff_eq]
  constructor
  · intro h
    rw [h, UInt8.toNat_ofNat']; omega
  · intro h
    apply UInt8.toNat_inj.1
    rw [UInt8.toNat_ofNat']; omega
theorem cells_snoc (acc : List UInt8) (c : UInt8) : Lib.byteCells acc ++ [.int .u8 (c.toNat : Int)] = Lib.byteCells (acc ++ [c]) := by simp [Lib.byteCells]

/-- what 'cutQuoted' hands back -/
def cutRes (o : Option (List UInt8 × List UInt8)) : Value :=
  match o with
  | none => .tuple #[.string ⟨#[]⟩, .string ⟨#[]⟩, .bool false]
  | some p => .tuple #[.string ⟨p.1.toArray⟩, .string ⟨p.2.toArray⟩, .bool true]

theorem ba_list {s : ByteArray} {l : List UInt8} (h : s.data.toList = l) : s = ⟨l.toArray⟩ := by
  cases s
  subst h
  simp

set_option maxRecDepth 100000 in
set_option maxHeartbeats 2000000 in
theorem cut_any (s : ByteArray) (w : World) (hs : s.size ≤ 8388608) (o : Option (List UInt8 × List UInt8)) (Ho : Hid (Quote.cq false (s.data.toList.drop 1) = o)) :
    Calls Try.prog 10 #[.string s] w fun e w' => e = .returned (cutRes o) ∧ Below w.heap.size w w' := by
  go_enter Try.func10, Try.ntmps10
  go_wp2_with fail
  go_loopg [6] s.size (fun gk v6 wr => ∃ (i : Nat) (acc : List UInt8), v6 = .int .i64 i ∧ 1 ≤ i ∧ i ≤ s.size + 1 ∧ acc.length ≤ i ∧ gk = s.size - (i - 1) ∧
      Hid (Quote.pre acc (Quote.cq false (s.data.toList.drop i)) = o ∧ Lib.IsBuilder 31 5 w.heap.size w.heap.size (Lib.byteCells acc) wr ∧ Below w.heap.size w wr))
  case atStart => exact ⟨1, [], rfl, Nat.le_refl _, by omega, by simp, rfl, by rw [Quote.pre_nil]; exact Ho.out, Or.inl ⟨Nat.le_refl _, .slice none 0 0, heap_alloc_new w _, World.ownsRow_nil _ _ _ _, by simp [Value.ownBlock]⟩, (Below.refl _ _).alloc (Nat.le_refl _) _⟩
  case round =>
    obtain ⟨i, acc, rfl, hi1, hi2, hacc, rfl, HR⟩ := hrel
    have hbs : w.heap.size ≤ wr.heap.size := (HR.out.2.2).size
    by_cases hin : i < s.size
    · have hii : (i : Int) < (s.size : Int) := by omega
      have hmeas : s.size - (i + 1 - 1) < s.size - (i - 1) := by omega
      have hda := drop_at s i hin
      have Hda : Hid _ := hda
      clear hda
      cases h34 : ((s[i].toNat : Int) == 34)
      · cases h92 : ((s[i].toNat : Int) == 92)
        · -- a plain byte
          have HQ : Hid (Quote.pre (acc ++ [s[i]]) (Quote.cq false (s.data.toList.drop (i + 1))) = o) := by
            show _ = _
            rw [← HR.out.1, Hda.out, Quote.cq_plain ((byte_eq _ 34 (by omega)).trans h34) ((byte_eq _ 92 (by omega)).trans h92)]
          have hlen : (Lib.byteCells acc).length + 1 ≤ 140737488355328 := by rw [Lib.byteCells_length]; omega
          have hacc' : (acc ++ [s[i]]).length ≤ i + 1 := by simp; omega
          go_wp2_with fail
          refine (writeByte_any w.heap.size w.heap.size _ _ _ HR.out.2.1 hlen hbs).mono ?_
          rintro e w1 ⟨rfl, hb1, hbel1⟩
          have HB : Hid (Lib.IsBuilder 31 5 w.heap.size w.heap.size (Lib.byteCells (acc ++ [s[i]])) w1 ∧ Below w.heap.size w w1) := ⟨Or.inr (by rw [← cells_snoc]; exact hb1), (HR.out.2.2).trans hbel1⟩
          clear hb1 hbel1
          go_wp2_with fail
          go_roundg (s.size - (i + 1 - 1))
          case measure => exact hmeas
          case rel => exact ⟨i + 1, acc ++ [s[i]], by go_num, by omega, by omega, hacc', rfl, HQ.out, HB.out⟩
        · -- a backslash
          by_cases hin2 : i + 1 < s.size
          · have hda2 := drop_at s (i + 1) hin2
            have HQ : Hid (Quote.pre (acc ++ [s[i + 1]]) (Quote.cq false (s.data.toList.drop (i + 2))) = o) := by
              show _ = _
              rw [← HR.out.1, Hda.out, hda2, Quote.cq_esc ((byte_eq _ 34 (by omega)).trans h34) ((byte_eq _ 92 (by omega)).trans h92)]
            clear hda2
            have hlen : (Lib.byteCells acc).length + 1 ≤ 140737488355328 := by rw [Lib.byteCells_length]; omega
            have hacc' : (acc ++ [s[i + 1]]).length ≤ i + 2 := by simp; omega
            have hmeas2 : s.size - (i + 2 - 1) < s.size - (i - 1) := by omega
            have hne : ((i : Int) + 1 == (s.size : Int)) = false := by rw [beq_eq_false_iff_ne]; omega
            have hi1I : (i : Int) + 1 < (s.size : Int) := by omega
            go_wp2_with fail
            refine (writeByte_any w.heap.size w.heap.size _ _ _ HR.out.2.1 hlen hbs).mono ?_
            rintro e w1 ⟨rfl, hb1, hbel1⟩
            have HB : Hid (Lib.IsBuilder 31 5 w.heap.size w.heap.size (Lib.byteCells (acc ++ [s[i + 1]])) w1 ∧ Below w.heap.size w w1) := ⟨Or.inr (by rw [← cells_snoc]; exact hb1), (HR.out.2.2).trans hbel1⟩
            clear hb1 hbel1
            go_wp2_with fail
            go_roundg (s.size - (i + 2 - 1))
            case measure => exact hmeas2
            case rel => exact ⟨i + 2, acc ++ [s[i + 1]], by go_num, by omega, by omega, hacc', rfl, HQ.out, HB.out⟩
          · have HQ : Hid (o = none) := by
              show _ = _
              rw [← HR.out.1, Hda.out, List.drop_of_length_le (by rw [len_list]; omega), Quote.cq_cut ((byte_eq _ 34 (by omega)).trans h34) ((byte_eq _ 92 (by omega)).trans h92)]
            have hne : ((i : Int) + 1 == (s.size : Int)) = true := by rw [beq_iff_eq]; omega
            go_wp2_with fail
            go_ret3
            exact ⟨by rw [HQ.out]; rfl, HR.out.2.2⟩
      · -- the closing quote
        have HQ : Hid (o = some (acc, s.data.toList.drop (i + 1))) := by
          show _ = _
          rw [← HR.out.1, Hda.out, Quote.cq_quote ((byte_eq _ 34 (by omega)).trans h34)]
        have HE : Hid (s.extract (i + 1) s.size = ⟨(s.data.toList.drop (i + 1)).toArray⟩) := ba_list (ext_list s (i + 1))
        have hi1I : (i : Int) + 1 ≤ (s.size : Int) := by omega
        have hi0I : 0 ≤ (i : Int) + 1 := by omega
        have hwr : IntKind.i64.wrap ((i : Int) + 1) = (i : Int) + 1 := IntWalk.i64_in _ ⟨by omega, by omega⟩
        go_wp2_with fail
        go_region_with (go_at_call 12; refine (Try.Builder_String_any w.heap.size w.heap.size acc _ (by exact HR.out.2.1) (by exact hbs)).mono ?_; rintro e w1 ⟨rfl, hbel1⟩)
        all_goals
          go_wp2_with fail
          go_ret3
          refine ⟨?_, ?_⟩
          · rw [HQ.out]
            show _ = Ending.returned (.tuple #[.string ⟨acc.toArray⟩, .string ⟨(s.data.toList.drop (i + 1)).toArray⟩, .bool true])
            rw [← HE.out]; rfl
          · exact ((HR.out.2.2).drew).trans hbel1
    · have HQ : Hid (o = none) := by
        show _ = _
        rw [← HR.out.1, List.drop_of_length_le (by rw [len_list]; omega)]; rfl
      have hii : ¬ (i : Int) < (s.size : Int) := by omega
      go_wp2_with fail
      go_ret3
      exact ⟨by rw [HQ.out]; rfl, HR.out.2.2⟩
end Go.Proofs.Qxb6604015a
