import Derived.Test.Qxb6601028aModelWalks
namespace Go.Proofs.Qxb6601028a.Units
open Go.RowKit RowsKit

theorem results_tmp4 {fn : Func} {t u v x : Tmp} (h : fn.results = #[.tmp t, .tmp u, .tmp v, .tmp x]) (tmps : Array Value) (P : Program) (w : World) :
    (results fn tmps).run P w = .ok (.tuple #[tmps.getD t undef, tmps.getD u undef, tmps.getD v undef, tmps.getD x undef]) w := by simp [results, h]

def isLE (n : Nat) (B : Nat → Int) : Bool := decide (2 ≤ n) && B 0 == 255 && B 1 == 254
def isBE (n : Nat) (B : Nat → Int) : Bool := decide (2 ≤ n) && B 0 == 254 && B 1 == 255
def isU8 (n : Nat) (B : Nat → Int) : Bool := decide (3 ≤ n) && B 0 == 239 && B 1 == 187 && B 2 == 191
def stOf (n : Nat) (B : Nat → Int) : Nat := if isLE n B then 2 else if isBE n B then 2 else if isU8 n B then 3 else 0
def wdOf (n : Nat) (B : Nat → Int) : Nat := if isLE n B then 2 else if isBE n B then 2 else 1
def hiOf (n : Nat) (B : Nat → Int) : Nat := if isLE n B then 1 else 0
def bigOf (n : Nat) (B : Nat → Int) : Bool := if isLE n B then false else isBE n B

theorem st_le (n : Nat) (B : Nat → Int) : stOf n B ≤ 3 ∧ stOf n B ≤ n ∧ (wdOf n B = 1 ∨ wdOf n B = 2) := by
  unfold stOf wdOf isLE isBE isU8
  simp only [Bool.and_eq_true, decide_eq_true_eq]
  repeat' split
  all_goals omega

def codeAt (n : Nat) (B : Nat → Int) (t : Nat) : Int :=
  if wdOf n B = 1 then B (stOf n B + t) else if bigOf n B then B (stOf n B + 2 * t) * 256 + B (stOf n B + 2 * t + 1) else B (stOf n B + 2 * t) + B (stOf n B + 2 * t + 1) * 256

theorem or_nat (a b : Nat) (ha : a < 65536) (hb : b < 65536) : bits .or .i64 (a : Int) (b : Int) = ((a ||| b : Nat) : Int) := by
  have hx : a ||| b < 2 ^ 16 := Nat.or_lt_two_pow (by omega) (by omega)
  show IntKind.i64.wrap ((BitVec.ofInt 64 (a : Int) ||| BitVec.ofInt 64 (b : Int)).toNat : Int) = _
  rw [BitVec.toNat_or, BitVec.ofInt_natCast, BitVec.toNat_ofNat, BitVec.ofInt_natCast, BitVec.toNat_ofNat, Nat.mod_eq_of_lt (by omega), Nat.mod_eq_of_lt (by omega)]
  exact IntWalk.i64_in _ ⟨by omega, by omega⟩
theorem or_hi (a b : Nat) (hb : b < 256) : a * 256 ||| b = a * 256 + b := by
  rw [show a * 256 = 2 ^ 8 * a by omega, Nat.two_pow_add_eq_or_of_lt (by omega)]
theorem or_big {a b : Int} (ha : 0 ≤ a ∧ a ≤ 255) (hb : 0 ≤ b ∧ b ≤ 255) : bits .or .i64 (a * 256) b = a * 256 + b := by
  obtain ⟨x, rfl⟩ := Int.eq_ofNat_of_zero_le ha.1
  obtain ⟨y, rfl⟩ := Int.eq_ofNat_of_zero_le hb.1
  have := or_nat (x * 256) y (by omega) (by omega)
  rw [or_hi x y (by omega)] at this
  have e : ((x : Int) * 256) = ((x * 256 : Nat) : Int) := by omega
  rw [e, this]; omega
theorem or_little {a b : Int} (ha : 0 ≤ a ∧ a ≤ 255) (hb : 0 ≤ b ∧ b ≤ 255) : bits .or .i64 a (b * 256) = a + b * 256 := by
  obtain ⟨x, rfl⟩ := Int.eq_ofNat_of_zero_le ha.1
  obtain ⟨y, rfl⟩ := Int.eq_ofNat_of_zero_le hb.1
  have := or_nat x (y * 256) (by omega) (by omega)
  rw [Nat.or_comm, or_hi y x (by omega)] at this
  have e : ((y : Int) * 256) = ((y * 256 : Nat) : Int) := by omega
  rw [e, this]; omega

set_option maxRecDepth 100000 in
set_option maxHeartbeats 2000000 in
theorem decode_aux (g n : Nat) (B : Nat → Int) (w : World) (hn : n ≤ 65536) (hB : Src w g n B) (hg : g < w.heap.size) (hb : ∀ k, 0 ≤ B k ∧ B k ≤ 255) (st wd N : Nat) (big : Bool) (C : Nat → Int)
    (Hst : Hid (st = stOf n B)) (Hwd : Hid (wd = wdOf n B)) (Hbig : Hid (big = bigOf n B)) (HC : Hid (C = codeAt n B)) (HNN : Hid (N = (n - st) / wd)) :
    Calls Try.prog 33 #[.slice (some ⟨g, 0, none⟩) n n] w fun e w' => e = .returned (.tuple #[.int .i64 st, .int .i64 wd, .bool big, .slice (some ⟨w.heap.size, 0, none⟩) N N]) ∧
      Codes w' w.heap.size N C ∧ w.heap.size < w'.heap.size ∧ Below w.heap.size w w' := by
  obtain ⟨i3, hi3, hz30, hz31, hz32⟩ := info_parts Try.info3
  have Hb : Hid _ := hb
  clear hb
  go_enter Try.func33, Try.ntmps33
  go_upto_region 5 with fail
  go_cut [29] (fun v wx => v = .bool (isLE n B) ∧ wx = w)
  case first =>
    -- [[ auto
    by_cases h2 : 2 ≤ n
    · have hc0 := hB 0 (by omega)
      have hc1 := hB 1 (by omega)
      cases h255 : B 0 == 255
      · go_wp2_with fail
        go_meet
        case rel => exact ⟨val_b (by unfold isLE; rw [h255]; simp), rfl⟩
      · go_wp2_with fail
        go_meet
        case rel => exact ⟨val_b (by unfold isLE; rw [h255]; simp [h2]), rfl⟩
    · go_wp2_with fail
      go_meet
      case rel => exact ⟨val_b (by unfold isLE; simp [h2]), rfl⟩
    -- ]] auto
  case rest =>
    obtain ⟨rfl, rfl⟩ := hcut
    go_upto_if 29 with fail
    go_cut [7, 8, 9, 29] (fun v7 v8 v9 _ wx => v7 = .int .i64 st ∧ v8 = .int .i64 wd ∧ v9 = .bool big ∧ wx = wc)
    case first =>
      -- [[ auto
      cases hLE : isLE n B
      · go_upto_region 8 with fail
        go_cut [43] (fun v wx => v = .bool (isBE n B) ∧ wx = wc)
        case first =>
          -- [[ auto
          by_cases h2 : 2 ≤ n
          · have hc0 := hB 0 (by omega)
            have hc1 := hB 1 (by omega)
            cases h255 : B 0 == 254
            · go_wp2_with fail
              go_meet
              case rel => exact ⟨val_b (by unfold isBE; rw [h255]; simp), rfl⟩
            · go_wp2_with fail
              go_meet
              case rel => exact ⟨val_b (by unfold isBE; rw [h255]; simp [h2]), rfl⟩
          · go_wp2_with fail
            go_meet
            case rel => exact ⟨val_b (by unfold isBE; simp [h2]), rfl⟩
          -- ]] auto
        case rest =>
          obtain ⟨rfl, rfl⟩ := hcut
          cases hBE : isBE n B
          · go_upto_region 12 with fail
            go_cut [63] (fun v wx => v = .bool (isU8 n B) ∧ wx = wc)
            case first =>
              -- [[ auto
              by_cases h2 : 3 ≤ n
              · have hc0 := hB 0 (by omega)
                have hc1 := hB 1 (by omega)
                have hc2 := hB 2 (by omega)
                cases h255 : B 0 == 239
                · go_wp2_with fail
                  go_meet
                  case rel => exact ⟨val_b (by unfold isU8; rw [h255]; simp), rfl⟩
                · cases h187 : B 1 == 187
                  · go_wp2_with fail
                    go_meet
                    case rel => exact ⟨val_b (by unfold isU8; rw [h187]; simp), rfl⟩
                  · go_wp2_with fail
                    go_meet
                    case rel => exact ⟨val_b (by unfold isU8; rw [h255, h187]; simp [h2]), rfl⟩
              · go_wp2_with fail
                go_meet
                case rel => exact ⟨val_b (by unfold isU8; simp [h2]), rfl⟩
              -- ]] auto
            case rest =>
              obtain ⟨rfl, rfl⟩ := hcut
              cases hU8 : isU8 n B
              · go_wp2_with fail
                go_meet
                case rel => exact ⟨val_i64 (by rw [Hst.out]; simp [stOf, hLE, hBE, hU8]), val_i64 (by rw [Hwd.out]; simp [wdOf, hLE, hBE]), val_b (by rw [Hbig.out]; simp [bigOf, hLE, hBE]), rfl⟩
              · go_wp2_with fail
                go_meet
                case rel => exact ⟨val_i64 (by rw [Hst.out]; simp [stOf, hLE, hBE, hU8]), val_i64 (by rw [Hwd.out]; simp [wdOf, hLE, hBE]), val_b (by rw [Hbig.out]; simp [bigOf, hLE, hBE]), rfl⟩
          · go_wp2_with fail
            go_meet
            case rel => exact ⟨val_i64 (by rw [Hst.out]; simp [stOf, hLE, hBE]), val_i64 (by rw [Hwd.out]; simp [wdOf, hLE, hBE]), val_b (by rw [Hbig.out]; simp [bigOf, hLE, hBE]), rfl⟩
      · go_wp2_with fail
        go_meet
        case rel => exact ⟨val_i64 (by rw [Hst.out]; simp [stOf, hLE]), val_i64 (by rw [Hwd.out]; simp [wdOf, hLE]), val_b (by rw [Hbig.out]; simp [bigOf, hLE]), rfl⟩
      -- ]] auto
    case rest =>
      obtain ⟨rfl, rfl, rfl, rfl⟩ := hcut
      have hsw := st_le n B
      rw [← Hst.out, ← Hwd.out] at hsw
      have HCd : Hid (C = fun t => if wd = 1 then B (st + t) else if big then B (st + 2 * t) * 256 + B (st + 2 * t + 1) else B (st + 2 * t) + B (st + 2 * t + 1) * 256) := by
        show _ = _
        rw [HC.out, Hst.out, Hwd.out, Hbig.out]; rfl
      clear HC Hst Hwd Hbig
      obtain ⟨hs3, hsn, hw12⟩ := hsw
      go_upto_region 14 with fail
      go_cut [10] (fun v wx => v = .int .i64 N ∧ wx = wc)
      case first =>
        -- [[ auto
        have hsi : (st : Int) ≤ (n : Int) := by omega
        rcases hw12 with rfl | rfl
        · go_wp2_with fail
          go_meet
          case rel => exact ⟨val_i64 (by have := HNN.out; rw [Nat.div_one] at this; omega), rfl⟩
        · go_wp2_with fail
          go_meet
          case rel => exact ⟨val_i64 (by have := HNN.out; omega), rfl⟩
        -- ]] auto
      case rest =>
        obtain ⟨rfl, rfl⟩ := hcut
        have hN1 : N ≤ n := by rw [HNN.out]; exact Nat.le_trans (Nat.div_le_self _ _) (Nat.sub_le _ _)
        have HN : Hid (st + wd * N ≤ n) := by
          have := Nat.mul_div_le (n - st) wd
          rw [← HNN.out] at this
          unfold Hid; omega
        have hb1 : i3.bytes * N ≤ 281474976710656 := by rw [hz32]; omega
        have hb2 : N ≤ maxLen := by unfold maxLen; omega
        go_wp2_with (at_make; refine wpList_make_full _ rfl (.tmp 69) (.tmp 69) 27 rfl wc.heap.size 3 i3 (.int .i64 0) 1 Try.underlying27 hi3 hz30 hz31 .i64 .i64 _ _ N rfl rfl rfl rfl hb1 hb2 (Nat.le_refl _) ?_)
        intro w1 hown hgrow
        have hown' : Hid (Row.owned w1 wc.heap.size ⟨3, 1, some ⟨wc.heap.size, 0, none⟩, N, N, (madeCells #[Value.int .i64 0] N).toList⟩) := hown
        have hbel : Hid (Below wc.heap.size wc w1) := (Below.refl _ _).grown hgrow (Nat.le_refl _) (fun k hk => by cases hk)
        clear hown hgrow
        go_wp2_with fail
        go_loopg [12, 13] N (fun gk v12 _ wx => ∃ (k : Nat) (xs : List Value), v12 = .int .i64 k ∧ k ≤ N ∧ gk = N - k ∧ Hid (Row.owned wx wc.heap.size ⟨3, 1, some ⟨wc.heap.size, 0, none⟩, N, N, xs⟩ ∧ (∀ t, t < k → xs[t]? = some (.int .i64 (C t))) ∧ Below wc.heap.size wc wx))
        case atStart => exact ⟨0, _, rfl, Nat.zero_le _, rfl, hown'.out, fun t ht => by omega, hbel.out⟩
        case round =>
          obtain ⟨k, xs, rfl, hk, rfl, HR⟩ := hrel
          have hsz : wc.heap.size < wr.heap.size := (World.ownsRow.lt HR.out.1 wc.heap.size rfl).2
          by_cases hkn : k < N
          · have hxl : xs.length = N * 1 := HR.out.1.1
            have hcell : wr.cell? ⟨wc.heap.size, k, none⟩ = some (xs[k]'(by omega)) := by rw [owned_cell HR.out.1 k (by omega), List.getElem?_eq_getElem (by omega)]
            have hfr := owned_frozen HR.out.1 k
            have hki : (k : Int) < (N : Int) := by omega
            have hmeas : N - (k + 1) < N - k := by omega
            generalize xs[k]'(by omega) = old at hcell
            have hsrc : ∀ t, t < n → wr.cell? ⟨g, t, none⟩ = some (.int .u8 (B t)) := fun t ht => ((HR.out.2.2).cell (p := ⟨g, t, none⟩) hg).trans (hB t ht)
            rcases hw12 with rfl | rfl
            · have hpn : st + k < n := by have := HN.out; omega
              have hs0 := hsrc (st + k) hpn
              have HV : Hid (C k = B (st + k)) := by show _ = _; rw [HCd.out]; simp
              obtain ⟨hb0, hb9⟩ := Hb.out (st + k)
              clear hsrc
              go_wp2_with fail
              go_roundg (N - (k + 1))
              case measure => exact hmeas
              case rel =>
                refine ⟨k + 1, xs.set k (.int .i64 (B (st + k))), by go_num, hkn, rfl, ?_, ?_, ?_⟩
                · exact (World.ownsRow.stored HR.out.1 k _).1
                · intro t ht
                  by_cases e : t = k
                  · subst e; rw [List.getElem?_set_self (by omega), HV.out]
                  · rw [List.getElem?_set_ne (by omega)]; exact HR.out.2.1 t (by omega)
                · exact (HR.out.2.2).setCell (Nat.le_refl _) _
            · have hpn : st + k * 2 + 2 ≤ n := by have := HN.out; omega
              have hs0 := hsrc (st + k * 2) (by omega)
              have hs1 := hsrc (st + k * 2 + 1) (by omega)
              obtain ⟨hb0, hb9⟩ := Hb.out (st + k * 2)
              obtain ⟨hb10, hb19⟩ := Hb.out (st + k * 2 + 1)
              clear hsrc
              cases big with
              | true =>
                have HV : Hid (C k = bits .or .i64 (B (st + k * 2) * 256) (B (st + k * 2 + 1))) := by
                  show _ = _
                  rw [HCd.out, or_big (Hb.out _) (Hb.out _), Nat.mul_comm k 2]; simp
                go_wp2_with fail
                go_region
                go_wp2_with fail
                go_roundg (N - (k + 1))
                case measure => exact hmeas
                case rel =>
                  refine ⟨k + 1, xs.set k (.int .i64 (bits .or .i64 (B (st + k * 2) * 256) (B (st + k * 2 + 1)))), by go_num, hkn, rfl, ?_, ?_, ?_⟩
                  · exact (World.ownsRow.stored HR.out.1 k _).1
                  · intro t ht
                    by_cases e : t = k
                    · subst e; rw [List.getElem?_set_self (by omega), HV.out]
                    · rw [List.getElem?_set_ne (by omega)]; exact HR.out.2.1 t (by omega)
                  · exact ((HR.out.2.2).setCell (Nat.le_refl _) _).drew
              | false =>
                have HV : Hid (C k = bits .or .i64 (B (st + k * 2)) (B (st + k * 2 + 1) * 256)) := by
                  show _ = _
                  rw [HCd.out, or_little (Hb.out _) (Hb.out _), Nat.mul_comm k 2]; simp
                go_wp2_with fail
                go_region
                go_wp2_with fail
                go_roundg (N - (k + 1))
                case measure => exact hmeas
                case rel =>
                  refine ⟨k + 1, xs.set k (.int .i64 (bits .or .i64 (B (st + k * 2)) (B (st + k * 2 + 1) * 256))), by go_num, hkn, rfl, ?_, ?_, ?_⟩
                  · exact (World.ownsRow.stored HR.out.1 k _).1
                  · intro t ht
                    by_cases e : t = k
                    · subst e; rw [List.getElem?_set_self (by omega), HV.out]
                    · rw [List.getElem?_set_ne (by omega)]; exact HR.out.2.1 t (by omega)
                  · exact ((HR.out.2.2).setCell (Nat.le_refl _) _).drew
          · have hkn' : k = N := by omega
            go_wp2_with fail
            refine bodyPost_ret (results_tmp4 rfl _ _ _) rfl ?_
            refine ⟨rfl, ?_, hsz, HR.out.2.2⟩
            intro t ht
            rw [owned_cell HR.out.1 t (by omega)]
            exact HR.out.2.1 t (by omega)

theorem decode_any (g n : Nat) (B : Nat → Int) (w : World) (hn : n ≤ 65536) (hB : Src w g n B) (hg : g < w.heap.size) (hb : ∀ k, 0 ≤ B k ∧ B k ≤ 255) :
    Calls Try.prog 33 #[.slice (some ⟨g, 0, none⟩) n n] w fun e w' => e = .returned (.tuple #[.int .i64 (stOf n B), .int .i64 (wdOf n B), .bool (bigOf n B), .slice (some ⟨w.heap.size, 0, none⟩) ((n - stOf n B) / wdOf n B) ((n - stOf n B) / wdOf n B)]) ∧
      Codes w' w.heap.size ((n - stOf n B) / wdOf n B) (codeAt n B) ∧ w.heap.size < w'.heap.size ∧ Below w.heap.size w w' :=
  decode_aux g n B w hn hB hg hb _ _ _ _ _ rfl rfl rfl rfl rfl

end Go.Proofs.Qxb6601028a.Units
