import Derived.Test.Qxb6604015aEscWalk
import Derived.Lib.AppendStr
import Derived.Laws.AppendOwnNone
namespace Go.Proofs.Qxb6604015a
open Go.RowKit RowsKit

theorem ba_of (t : ByteArray) : (⟨t.data.toList.toArray⟩ : ByteArray) = t := (ba_list rfl).symm

theorem zz_cut_yes (s t tail : ByteArray) (w : World) (hs : s.size ≤ 8388608) (h : Hid (Quote.cq false (s.data.toList.drop 1) = some (t.data.toList, tail.data.toList))) :
    Calls Try.prog 6 #[.string s] w fun e w' => e = .returned (.tuple #[.string t, .string tail, .bool true]) ∧ Below w.heap.size w w' := by
  go_enter Try.func6, Try.ntmps6
  go_wp2_with fail
  refine (cut_any s _ hs _ h).mono ?_
  rintro e w1 ⟨he, hb⟩
  have he' : e = .returned (.tuple #[.string t, .string tail, .bool true]) := by
    rw [he]
    show Ending.returned (.tuple #[.string ⟨t.data.toList.toArray⟩, .string ⟨tail.data.toList.toArray⟩, .bool true]) = _
    rw [ba_of, ba_of]
  subst he'
  clear he
  go_wp2_with fail
  go_ret3
  exact ⟨rfl, hb⟩
theorem zz_cut_no (s : ByteArray) (w : World) (hs : s.size ≤ 8388608) (h : Hid (Quote.cq false (s.data.toList.drop 1) = none)) :
    Calls Try.prog 6 #[.string s] w fun e w' => e = .returned (.tuple #[.string ⟨#[]⟩, .string ⟨#[]⟩, .bool false]) ∧ Below w.heap.size w w' := by
  go_enter Try.func6, Try.ntmps6
  go_wp2_with fail
  refine (cut_any s _ hs _ h).mono ?_
  rintro e w1 ⟨he, hb⟩
  have he' : e = .returned (.tuple #[.string ⟨#[]⟩, .string ⟨#[]⟩, .bool false]) := he
  subst he'
  clear he
  go_wp2_with fail
  go_ret3
  exact ⟨rfl, hb⟩

theorem esc_empty (t : ByteArray) (all : Bool) (w : World) (ht : t.size = 0) :
    Calls Try.prog 9 #[.string t, .bool all] w fun e w' => e = .returned (.slice none 0 0) ∧ w' = w := by
  go_enter Try.func9, Try.ntmps9
  go_wp2_with fail
  refine wp_loop_rounds 1 ?_
  rw [rounds_succ]
  go_wp2_with fail
  go_ret
  exact ⟨rfl, rfl⟩

theorem bytes8_yes (a b : ByteArray) (c : Bool) (w : World) (h : (a.size : Int) + (b.size : Int) ≤ 1048576) : Calls Try.prog 8 #[.string a, .string b, .bool c] w fun e w' => e = .returned (.bool true) ∧ w' = w := by
  have h1 : ¬ (1048576 : Int) < (a.size : Int) := by omega
  have h2 : ¬ (1048576 : Int) < (b.size : Int) := by omega
  have h3 : ¬ (1048576 : Int) < (a.size : Int) + (b.size : Int) := by omega
  go_enter Try.func8, Try.ntmps8
  go_wp2
  go_ret
  exact ⟨rfl, rfl⟩
theorem bytes8_no (a b : ByteArray) (c : Bool) (w : World) (ha : a.size ≤ maxLen) (hb : b.size ≤ maxLen) (h : ¬ (a.size : Int) + (b.size : Int) ≤ 1048576) : Calls Try.prog 8 #[.string a, .string b, .bool c] w fun e w' => e = .returned (.bool false) ∧ w' = w := by
  unfold maxLen at ha hb
  by_cases h1 : (1048576 : Int) < (a.size : Int)
  · go_enter Try.func8, Try.ntmps8
    go_wp2
    go_ret
    exact ⟨rfl, rfl⟩
  · by_cases h2 : (1048576 : Int) < (b.size : Int)
    · go_enter Try.func8, Try.ntmps8
      go_wp2
      go_ret
      exact ⟨rfl, rfl⟩
    · have h3 : (1048576 : Int) < (a.size : Int) + (b.size : Int) := by omega
      go_enter Try.func8, Try.ntmps8
      go_wp2
      go_ret
      exact ⟨rfl, rfl⟩

/-- what an owned row of bytes reads as, as a string -/
theorem conv_own {w : World} {base g n cap : Nat} {l : List UInt8} (h : w.ownsRow base 5 1 (.slice (some ⟨g, 0, none⟩) n cap) n (Lib.byteCells l)) (hl : l.length = n) :
    (convert 26 9 (.slice (some ⟨g, 0, none⟩) n cap)).run Try.prog w = .ok (.string ⟨l.toArray⟩) w := by
  subst hl
  refine run_convert_bytes_back (P := Try.prog) w 26 9 5 ⟨g, 0, none⟩ cap l Try.underlying26 Try.underlying5 Try.underlying9 ?_
  intro j hj
  rw [Addr.add_lit, Nat.zero_add, World.ownsRow.cellAt h j (by omega)]
  simp [Lib.byteCells, hj]

theorem strCells_eq (s : ByteArray) : Lib.strCells s = Lib.byteCells s.data.toList := by simp [Lib.strCells, Lib.byteCells]
theorem bc_app (a b : List UInt8) : Lib.byteCells a ++ Lib.byteCells b = Lib.byteCells (a ++ b) := by simp [Lib.byteCells]
end Go.Proofs.Qxb6604015a
