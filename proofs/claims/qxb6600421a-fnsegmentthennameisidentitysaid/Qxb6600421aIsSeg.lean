/-
  SEAT b6600421a: isSegment, ZZisSegment, zzWellFormed.
-/
import Derived.Test.Qxb6600421aSmall
namespace Go.Proofs.Qxb6600421a
open Go.RowKit

theorem index_hex (c : UInt8) : Lib.indexByte [48, 49, 50, 51, 52, 53, 54, 55, 56, 57, 65, 66, 67, 68, 69, 70] c = hexV c := by
  exact u8_all (p := fun c => Lib.indexByte [48, 49, 50, 51, 52, 53, 54, 55, 56, 57, 65, 66, 67, 68, 69, 70] c = hexV c) (by decide +kernel) c

theorem byte_back (c : UInt8) : ((c.toNat : Int)).toNat.toUInt8 = c := by simp

theorem indexHex_any (c : UInt8) (w : World) :
    Calls Try.prog 26 #[.string ⟨#[48, 49, 50, 51, 52, 53, 54, 55, 56, 57, 65, 66, 67, 68, 69, 70]⟩, .int .u8 (c.toNat : Int)] w fun e w' => e = .returned (.int .i64 (hexV c)) ∧ w' = w := by
  refine (strings_IndexByte _ _ _).mono ?_
  rintro e w' ⟨rfl, rfl⟩
  rw [byte_back]
  exact ⟨ret_int (index_hex c), rfl⟩

theorem or_hex (h l : UInt8) (hh : 0 ≤ hexV h) (hl : 0 ≤ hexV l) : bits BinOp.or IntKind.i64 (hexV h * 16) (hexV l) % 256 = ((hexB h l).toNat : Int) := by
  rw [hexB_nat hh hl]
  have a := hexV_range h
  have b := hexV_range l
  have key : ∀ m n : Fin 16, bits BinOp.or IntKind.i64 ((m.val : Int) * 16) (n.val : Int) % 256 = ((m.val * 16 + n.val : Nat) : Int) := by decide +kernel
  have k := key ⟨(hexV h).toNat, by omega⟩ ⟨(hexV l).toNat, by omega⟩
  have e1 : (((hexV h).toNat : Nat) : Int) = hexV h := by omega
  have e2 : (((hexV l).toNat : Nat) : Int) = hexV l := by omega
  simp only [e1, e2] at k
  exact k

theorem drop_three (s : ByteArray) (k : Nat) (h : k + 2 < s.size) : s.data.toList.drop k = s[k] :: s[k + 1] :: s[k + 2] :: s.data.toList.drop (k + 3) := by
  rw [drop_cons s k (by omega), drop_cons s (k + 1) (by omega), drop_cons s (k + 2) (by omega)]

theorem short_cases (s : ByteArray) (k : Nat) (h : k < s.size) (h2 : ¬ k + 2 < s.size) : s.data.toList.drop k = [s[k]] ∨ ∃ x, s.data.toList.drop k = [s[k], x] := by
  rw [drop_cons s k h]
  by_cases h1 : k + 1 < s.size
  · right
    exact ⟨s[k + 1], by rw [drop_cons s (k + 1) h1, drop_end s (k + 1 + 1) h2]⟩
  · left
    rw [drop_end s (k + 1) h1]

theorem pc37 {c : UInt8} (h : (c.toNat : Int) = 37) : c = 37 := u8_eq_of (n := 37) h (by decide)
theorem npc37 {c : UInt8} (h : ¬ (c.toNat : Int) = 37) : c ≠ 37 := fun e => h (by rw [e]; rfl)

/-! ### The ways of isSegment's round, in the walk's own spelling -/
theorem is_w_kept {c : UInt8} {r : List UInt8} (h : keptI (c.toNat : Int) = true) : isL (c :: r) = isL r := is_kept h
theorem is_w_bad {c : UInt8} {r : List UInt8} (h : keptI (c.toNat : Int) = false) (h' : ¬ (c.toNat : Int) = 37) : isL (c :: r) = false := is_bad h (npc37 h')
theorem is_w_hi {c h l : UInt8} {r : List UInt8} (hc : (c.toNat : Int) = 37) (hh : hexV h < 0) : isL (c :: h :: l :: r) = false := by
  rw [pc37 hc, is_esc]; simp [show ¬ 0 ≤ hexV h from by omega]
theorem is_w_lo {c h l : UInt8} {r : List UInt8} (hc : (c.toNat : Int) = 37) (hh : 0 ≤ hexV h) (hl : hexV h < 0 ∨ hexV l < 0) : isL (c :: h :: l :: r) = false := by
  rw [pc37 hc, is_esc]; simp [show ¬ 0 ≤ hexV l from by omega]
theorem is_w_kept2 {c h l : UInt8} {r : List UInt8} (hc : (c.toNat : Int) = 37) (hhl : 0 ≤ hexV h ∧ 0 ≤ hexV l) (hk : keptI (bits BinOp.or IntKind.i64 (hexV h * 16) (hexV l) % 256) = true) : isL (c :: h :: l :: r) = false := by
  rw [or_hex h l hhl.1 hhl.2] at hk
  have hk' : keptB (hexB h l) = true := hk
  rw [pc37 hc, is_esc, hk']; simp
theorem inN_byte (c : UInt8) : ((c.toNat : Int) != 47 && (c.toNat : Int) != 0) = (c != 47 && c != 0) :=
  u8_all (p := fun c => ((c.toNat : Int) != 47 && (c.toNat : Int) != 0) = (c != 47 && c != 0)) (by decide +kernel) c
theorem is_w_name {c h l : UInt8} {r : List UInt8} (hc : (c.toNat : Int) = 37) (hhl : 0 ≤ hexV h ∧ 0 ≤ hexV l)
    (hn : (!bits BinOp.or IntKind.i64 (hexV h * 16) (hexV l) % 256 != 47) = true ∨ (!bits BinOp.or IntKind.i64 (hexV h * 16) (hexV l) % 256 != 0) = true) : isL (c :: h :: l :: r) = false := by
  rw [or_hex h l hhl.1 hhl.2] at hn
  have e := inN_byte (hexB h l)
  have e2 : (hexB h l != 47 && hexB h l != 0) = false := by
    rw [← e]
    rcases hn with hn | hn
    · simp only [Bool.not_eq_true'] at hn; rw [hn]; rfl
    · simp only [Bool.not_eq_true'] at hn; rw [hn]; simp
  rw [pc37 hc, is_esc, e2]; simp
theorem is_w_on {c h l : UInt8} {r : List UInt8} (hc : (c.toNat : Int) = 37) (hhl : 0 ≤ hexV h ∧ 0 ≤ hexV l) (hk : ¬ keptI (bits BinOp.or IntKind.i64 (hexV h * 16) (hexV l) % 256) = true)
    (hn : (!bits BinOp.or IntKind.i64 (hexV h * 16) (hexV l) % 256 != 47) = false ∧ (!bits BinOp.or IntKind.i64 (hexV h * 16) (hexV l) % 256 != 0) = false) : isL (c :: h :: l :: r) = isL r := by
  rw [or_hex h l hhl.1 hhl.2] at hn hk
  have hk' : keptB (hexB h l) = false := by simpa [keptB] using hk
  have e := inN_byte (hexB h l)
  have e2 : (hexB h l != 47 && hexB h l != 0) = true := by
    rw [← e]
    simp only [Bool.not_eq_false'] at hn
    rw [hn.1, hn.2]; rfl
  rw [pc37 hc, is_esc, e2, hk']; simp [hhl.1, hhl.2]
theorem is_w_short {c : UInt8} {l : List UInt8} (h : l = [c] ∨ ∃ x, l = [c, x]) (hk : keptI (c.toNat : Int) = false) : isL l = false := by
  by_cases hc : (c.toNat : Int) = 37
  · have := pc37 hc; subst this
    rcases h with rfl | ⟨x, rfl⟩
    · exact is_short1
    · exact is_short2 x
  · rcases h with rfl | ⟨x, rfl⟩
    · exact is_bad hk (npc37 hc)
    · exact is_bad hk (npc37 hc)

set_option maxHeartbeats 1000000 in
theorem isSegment_loop (s : ByteArray) (w : World) (hs : s.size ≤ 16777216) (h1 : ¬ s.data.toList = []) (h2 : ¬ s.data.toList = [46]) :
    Calls Try.prog 31 #[.string s] w fun e w' => e = .returned (.bool (isL s.data.toList)) ∧ w' = w := by
  have e1 : s.toList.isEmpty = false := by rw [Lib.toList_data]; simpa using h1
  have e2 : (s.toList == [46]) = false := by rw [Lib.toList_data]; simpa using h2
  clear h1 h2
  go_enter Try.func31, Try.ntmps31
  go_wp2
  go_loop [3] (fun i => ∃ k : Nat, k ≤ s.size ∧ i = .int .i64 k ∧ isL (s.data.toList.drop k) = isL s.data.toList) (fun i => s.size - (intOf i).toNat)
  case atStart => exact ⟨0, Nat.zero_le _, rfl, rfl⟩
  case round =>
    obtain ⟨k, hk, rfl, hr⟩ := hrel
    have HR : Hid (isL (s.data.toList.drop k) = isL s.data.toList) := hr
    clear hr
    by_cases hlt : k < s.size
    · by_cases hlt2 : k + 2 < s.size
      · have b1 := hexV_range s[k+1]
        have b2 := hexV_range s[k+2]
        go_wp2_with (first | (go_at_call 27; refine (kept_any _ _).mono ?_; rintro e w' ⟨rfl, rfl⟩) | (go_at_call 34; refine (inName_any _ _).mono ?_; rintro e w' ⟨rfl, rfl⟩) | (go_at_call 26; refine (indexHex_any _ _).mono ?_; rintro e w' ⟨rfl, rfl⟩))
        · have t1 : keptI (s[k].toNat : Int) = true := by assumption
          go_round
          case rel => exact ⟨k + 1, by omega, by go_num, by rw [← HR.out, drop_cons s k hlt, is_w_kept t1]⟩
          case measure => simp [intOf]; omega
        · have t1 : (s[k].toNat : Int) = 37 := by assumption
          have t2 : 0 ≤ hexV s[k + 1] := by assumption
          have t3 : hexV s[k + 1] < 0 ∨ hexV s[k + 2] < 0 := by assumption
          go_ret
          exact ⟨ret_bool (by rw [← HR.out, drop_three s k hlt2, is_w_lo t1 t2 t3]), rfl⟩
        · have t1 : (s[k].toNat : Int) = 37 := by assumption
          have t2 : 0 ≤ hexV s[k + 1] ∧ 0 ≤ hexV s[k + 2] := by assumption
          have t3 : keptI (bits BinOp.or IntKind.i64 (hexV s[k + 1] * 16) (hexV s[k + 2]) % 256) = true := by assumption
          go_ret
          exact ⟨ret_bool (by rw [← HR.out, drop_three s k hlt2, is_w_kept2 t1 t2 t3]), rfl⟩
        · have t1 : (s[k].toNat : Int) = 37 := by assumption
          have t2 : 0 ≤ hexV s[k + 1] ∧ 0 ≤ hexV s[k + 2] := by assumption
          have t3 : (!bits BinOp.or IntKind.i64 (hexV s[k + 1] * 16) (hexV s[k + 2]) % 256 != 47) = true ∨ (!bits BinOp.or IntKind.i64 (hexV s[k + 1] * 16) (hexV s[k + 2]) % 256 != 0) = true := by assumption
          go_ret
          exact ⟨ret_bool (by rw [← HR.out, drop_three s k hlt2, is_w_name t1 t2 t3]), rfl⟩
        · have t1 : (s[k].toNat : Int) = 37 := by assumption
          have t2 : 0 ≤ hexV s[k + 1] ∧ 0 ≤ hexV s[k + 2] := by assumption
          have t3 : ¬ keptI (bits BinOp.or IntKind.i64 (hexV s[k + 1] * 16) (hexV s[k + 2]) % 256) = true := by assumption
          have t4 : (!bits BinOp.or IntKind.i64 (hexV s[k + 1] * 16) (hexV s[k + 2]) % 256 != 47) = false ∧ (!bits BinOp.or IntKind.i64 (hexV s[k + 1] * 16) (hexV s[k + 2]) % 256 != 0) = false := by assumption
          go_round
          case rel => exact ⟨k + 3, by omega, by go_num, by rw [← HR.out, drop_three s k hlt2, is_w_on t1 t2 t3 t4]⟩
          case measure => simp [intOf]; omega
        · have t1 : (s[k].toNat : Int) = 37 := by assumption
          have t2 : hexV s[k + 1] < 0 := by assumption
          go_ret
          exact ⟨ret_bool (by rw [← HR.out, drop_three s k hlt2, is_w_hi t1 t2]), rfl⟩
        · have t1 : keptI (s[k].toNat : Int) = false := by assumption
          have t2 : ¬ (s[k].toNat : Int) = 37 := by assumption
          go_ret
          exact ⟨ret_bool (by rw [← HR.out, drop_cons s k hlt, is_w_bad t1 t2]), rfl⟩
      · have hsh := short_cases s k hlt hlt2
        have HS : Hid (s.data.toList.drop k = [s[k]] ∨ ∃ x, s.data.toList.drop k = [s[k], x]) := hsh
        clear hsh
        go_wp2_with (go_at_call 27; refine (kept_any _ _).mono ?_; rintro e w' ⟨rfl, rfl⟩)
        · have t1 : keptI (s[k].toNat : Int) = true := by assumption
          go_round
          case rel => exact ⟨k + 1, by omega, by go_num, by rw [← HR.out, drop_cons s k hlt, is_w_kept t1]⟩
          case measure => simp [intOf]; omega
        all_goals
          have t1 : keptI (s[k].toNat : Int) = false := by assumption
          go_ret
          exact ⟨ret_bool (by rw [← HR.out, is_w_short HS.out t1]), rfl⟩
    · go_wp2
      go_ret
      exact ⟨ret_bool (by rw [← HR.out, drop_end s k hlt]; rfl), rfl⟩

theorem isSegment_any (s : ByteArray) (w : World) (hs : s.size ≤ 16777216) :
    Calls Try.prog 31 #[.string s] w fun e w' => e = .returned (.bool (isSeg s.data.toList)) ∧ w' = w := by
  by_cases h1 : s.data.toList = []
  · have e1 : s.toList.isEmpty = true := by rw [Lib.toList_data]; simpa using h1
    have HH : Hid (s.data.toList = []) := h1
    clear h1
    go_enter Try.func31, Try.ntmps31
    go_wp2
    go_ret
    exact ⟨ret_bool (by rw [HH.out]; rfl), rfl⟩
  · by_cases h2 : s.data.toList = [46]
    · have e1 : s.toList.isEmpty = false := by rw [Lib.toList_data]; simpa using h1
      have e2 : (s.toList == [46]) = true := by rw [Lib.toList_data]; simpa using h2
      have HH : Hid (s.data.toList = [46]) := h2
      clear h1 h2
      go_enter Try.func31, Try.ntmps31
      go_wp2
      go_ret
      exact ⟨ret_bool (by rw [HH.out]; rfl), rfl⟩
    · refine (isSegment_loop s w hs h1 h2).mono ?_
      rintro e w' ⟨rfl, rfl⟩
      exact ⟨ret_bool (by unfold isSeg; simp [h1, h2]), rfl⟩

theorem zzIsSegment_any (s : ByteArray) (w : World) (hs : s.size ≤ 16777216) :
    Calls Try.prog 19 #[.string s] w fun e w' => e = .returned (.bool (isSeg s.data.toList)) ∧ w' = w := by
  go_enter Try.func19, Try.ntmps19
  go_wp2_with (go_at_call 31; refine (isSegment_any _ _ hs).mono ?_; rintro e w' ⟨rfl, rfl⟩)
  go_ret
  exact ⟨rfl, rfl⟩
end Go.Proofs.Qxb6600421a
