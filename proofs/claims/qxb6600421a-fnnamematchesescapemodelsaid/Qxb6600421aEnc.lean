/-
  SEAT b6600421a: zzWellFormed; zzEncodedAs, the loose way, at what Name gives.
-/
import Derived.Test.Qxb6600421aName
import Derived.Deep.QuietTactic
import Derived.BigQuiet
namespace Go.Proofs.Qxb6600421a
open Go.RowKit

theorem hexValue_at (c : UInt8) (w : World) :
    Calls Try.prog 28 #[.int .u8 (c.toNat : Int)] w fun e w' => e = .returned (.int .i64 (hexV c)) ∧ w = w' := by
  refine (hexValue_any _ w).mono ?_
  rintro e w' ⟨rfl, rfl⟩
  exact ⟨ret_int (hexI_byte c), rfl⟩

theorem wf_w_hi {c h l : UInt8} {r : List UInt8} (hc : (c.toNat : Int) = 37) (hh : hexV h < 0) : wfL (c :: h :: l :: r) = false := by
  rw [pc37 hc, wf_esc]; simp [show ¬ 0 ≤ hexV h from by omega]
theorem wf_w_lo {c h l : UInt8} {r : List UInt8} (hc : (c.toNat : Int) = 37) (hh : 0 ≤ hexV h) (hl : hexV h < 0 ∨ hexV l < 0) : wfL (c :: h :: l :: r) = false := by
  rw [pc37 hc, wf_esc]; simp [show ¬ 0 ≤ hexV l from by omega]
theorem wf_w_on {c h l : UInt8} {r : List UInt8} (hc : (c.toNat : Int) = 37) (hh : 0 ≤ hexV h) (hl : 0 ≤ hexV l) : wfL (c :: h :: l :: r) = wfL r := by
  rw [pc37 hc, wf_esc]; simp [hh, hl]
theorem wf_w_short {c : UInt8} {l : List UInt8} (h : l = [c] ∨ ∃ x, l = [c, x]) (hc : (c.toNat : Int) = 37) : wfL l = false := by
  have := pc37 hc; subst this
  rcases h with rfl | ⟨x, rfl⟩
  · exact wf_short1
  · exact wf_short2 x

set_option maxHeartbeats 1000000 in
theorem wellFormed_any (s : ByteArray) (w : World) (hs : s.size ≤ 16777216) :
    Calls Try.prog 16 #[.string s] w fun e w' => e = .returned (.bool (wfL s.data.toList)) ∧ w = w' := by
  go_enter Try.func16, Try.ntmps16
  go_wp2
  go_loop [3] (fun i => ∃ k : Nat, k ≤ s.size ∧ i = .int .i64 k ∧ wfL (s.data.toList.drop k) = wfL s.data.toList) (fun i => s.size - (intOf i).toNat)
  case atStart => exact ⟨0, Nat.zero_le _, rfl, rfl⟩
  case round =>
    obtain ⟨k, hk, rfl, hr⟩ := hrel
    have HR : Hid (wfL (s.data.toList.drop k) = wfL s.data.toList) := hr
    clear hr
    by_cases hlt : k < s.size
    · by_cases h37 : (s[k].toNat : Int) = 37
      · have hne : ((s[k].toNat : Int) != 37) = false := by simpa using h37
        have H37 : Hid ((s[k].toNat : Int) = 37) := h37
        clear h37
        by_cases hlt2 : k + 2 < s.size
        · by_cases t1 : hexV s[k + 1] < 0
          · go_wp2_with (go_at_call 28; refine (hexValue_at _ _).mono ?_; rintro e w' ⟨rfl, rfl⟩)
            go_ret
            exact ⟨ret_bool (by rw [← HR.out, drop_three s k hlt2, wf_w_hi H37.out t1]), rfl⟩
          · by_cases t2 : hexV s[k + 2] < 0
            · go_wp2_with (go_at_call 28; refine (hexValue_at _ _).mono ?_; rintro e w' ⟨rfl, rfl⟩)
              go_ret
              exact ⟨ret_bool (by rw [← HR.out, drop_three s k hlt2, wf_w_lo H37.out (by omega) (.inr t2)]), rfl⟩
            · go_wp2_with (go_at_call 28; refine (hexValue_at _ _).mono ?_; rintro e w' ⟨rfl, rfl⟩)
              go_round
              case rel => exact ⟨k + 3, by omega, by go_num, by rw [← HR.out, drop_three s k hlt2, wf_w_on H37.out (by omega) (by omega)]⟩
              case measure => simp [intOf]; omega
        · have HS : Hid (s.data.toList.drop k = [s[k]] ∨ ∃ x, s.data.toList.drop k = [s[k], x]) := short_cases s k hlt hlt2
          go_wp2
          go_ret
          exact ⟨ret_bool (by rw [← HR.out, wf_w_short HS.out H37.out]), rfl⟩
      · have hne : ((s[k].toNat : Int) != 37) = true := by simpa using h37
        have H37 : Hid (s[k] ≠ 37) := npc37 h37
        clear h37
        go_wp2
        go_round
        case rel => exact ⟨k + 1, by omega, by go_num, by rw [← HR.out, drop_cons s k hlt, wf_plain H37.out]⟩
        case measure => simp [intOf]; omega
    · go_wp2
      go_ret
      exact ⟨ret_bool (by rw [← HR.out, drop_end s k hlt]; rfl), rfl⟩

theorem name_nil {l : List UInt8} (hw : wfL l = true) (h : [] = nameL l) : l = [] := by
  match l, hw, h with
  | [], _, _ => rfl
  | c :: r, hw, h =>
    by_cases hc : c = 37
    · subst hc
      match r, hw, h with
      | [], hw, _ => rw [wf_short1] at hw; cases hw
      | [x], hw, _ => rw [wf_short2] at hw; cases hw
      | x :: y :: r', _, h => rw [name_esc] at h; cases h
    · rw [name_plain hc] at h; cases h

theorem bel_drewN {B : Nat} {a w : World} (h : Below B a w) : ∀ n, Below B a (w.drewN n) := fun _ => ⟨h.os, h.tape, h.output, h.size, h.block⟩

set_option maxHeartbeats 1000000 in
theorem encoded_any (raw enc : ByteArray) (w : World) (hs : raw.size ≤ 16777216) (hs2 : enc.size ≤ 16777216) (hwf : wfL enc.data.toList = true) (hn : raw.data.toList = nameL enc.data.toList) :
    Calls Try.prog 17 #[.string raw, .string enc, .bool false] w fun e w' => e = .returned (.bool true) ∧ Below w.heap.size w w' := by
  have HWF : Hid (wfL enc.data.toList = true) := hwf
  have HN : Hid (raw.data.toList = nameL enc.data.toList) := hn
  clear hwf hn
  go_enter Try.func17, Try.ntmps17
  go_wp2
  go_loopw [7, 8] (fun sj sk wr => ∃ k j : Nat, k ≤ raw.size ∧ j ≤ enc.size ∧ sk = .int .i64 k ∧ sj = .int .i64 j ∧ raw.data.toList.drop k = nameL (enc.data.toList.drop j) ∧ wfL (enc.data.toList.drop j) = true ∧ Below w.heap.size w wr) (fun _ sk _ => raw.size - (intOf sk).toNat)
  case atStart => exact ⟨0, 0, Nat.zero_le _, Nat.zero_le _, rfl, rfl, HN.out, HWF.out, Below.refl _ _⟩
  case round =>
    obtain ⟨k, j, hk, hj, rfl, rfl, hr, hw, hb⟩ := hrel
    clear HWF HN
    have HR : Hid (raw.data.toList.drop k = nameL (enc.data.toList.drop j)) := hr
    have HW : Hid (wfL (enc.data.toList.drop j) = true) := hw
    clear hr hw
    by_cases hlt : k < raw.size
    · have hjlt : j < enc.size := by
        rcases Nat.lt_or_ge j enc.size with h | h
        · exact h
        · have := HR.out
          rw [drop_cons raw k hlt, drop_end enc j (by omega)] at this
          simp [nameL] at this
      by_cases h37 : (enc[j].toNat : Int) = 37
      · have e37 : enc[j] = 37 := pc37 h37
        have hj2 := wf_cut hjlt e37 HW.out
        obtain ⟨hh, hl, hw3⟩ := wf_three hj2 e37 HW.out
        have hcons : raw[k] = hexB enc[j + 1] enc[j + 2] ∧ raw.data.toList.drop (k + 1) = nameL (enc.data.toList.drop (j + 3)) := by
          have := HR.out
          rw [drop_cons raw k hlt, drop_three enc j hj2, e37, name_esc] at this
          exact ⟨(List.cons.inj this).1, (List.cons.inj this).2⟩
        have hby := raw[k].toNat_lt
        have hd := hexD_hexB hh hl
        rw [← hcons.1] at hd
        have g1 : digI ((raw[k].toNat : Int) / 16) = (enc[j + 1].toNat : Int) := by
          rw [show (raw[k].toNat : Int) / 16 = ((raw[k].toNat / 16 : Nat) : Int) by omega, digI_hexD _ (by omega), hd.1]
        have g2 : digI ((raw[k].toNat : Int) % 16) = (enc[j + 2].toNat : Int) := by
          rw [show (raw[k].toNat : Int) % 16 = ((raw[k].toNat % 16 : Nat) : Int) by omega, digI_hexD _ (by omega), hd.2]
        have hne : ((enc[j].toNat : Int) != 37) = false := by simpa using h37
        have HX : Hid (raw.data.toList.drop (k + 1) = nameL (enc.data.toList.drop (j + 3)) ∧ wfL (enc.data.toList.drop (j + 3)) = true) := ⟨hcons.2, hw3⟩
        clear hcons hd hw3 e37 HR HW h37 hh hl
        have i1 : (0 : Int) ≤ (j : Int) + 1 := by omega
        have i2 : (j : Int) + 1 < (enc.size : Int) := by omega
        have i3 : (0 : Int) ≤ (j : Int) + 2 := by omega
        have i4 : (j : Int) + 2 < (enc.size : Int) := by omega
        go_wp2_with fail
        go_quiet ((go_at_call 30; exact Calls.quiet_of_same (hexDigit_any _ _ (by omega) (by omega))))
        go_wp2
        go_roundw
        case rel => exact ⟨k + 1, j + 3, by omega, by omega, by go_num, by go_num, HX.out.1, HX.out.2, bel_drewN hb _⟩
        case measure => simp [intOf]; omega
      · have e37 : enc[j] ≠ 37 := npc37 h37
        have hcons : raw[k] = enc[j] ∧ raw.data.toList.drop (k + 1) = nameL (enc.data.toList.drop (j + 1)) := by
          have := HR.out
          rw [drop_cons raw k hlt, drop_cons enc j hjlt, name_plain e37] at this
          exact ⟨(List.cons.inj this).1, (List.cons.inj this).2⟩
        have hw1 := wf_step1 hjlt e37 HW.out
        have g1 : (raw[k].toNat : Int) = (enc[j].toNat : Int) := by rw [hcons.1]
        have hne : ((enc[j].toNat : Int) != 37) = true := by simpa using h37
        have hge : decide ((enc.size : Int) ≤ (j : Int)) = false := by simpa using hjlt
        have HX : Hid (raw.data.toList.drop (k + 1) = nameL (enc.data.toList.drop (j + 1)) ∧ wfL (enc.data.toList.drop (j + 1)) = true) := ⟨hcons.2, hw1⟩
        clear hcons hw1 e37 HR HW h37
        go_wp2
        go_roundw
        case rel => exact ⟨k + 1, j + 1, by omega, by omega, by go_num, by go_num, HX.out.1, HX.out.2, hb⟩
        case measure => simp [intOf]; omega
    · have hj2 : enc.size ≤ j := by
        have := HR.out
        rw [drop_end raw k hlt] at this
        have := name_nil HW.out this
        have := List.drop_eq_nil_iff.1 this
        simpa using this
      have hje : ((j : Int) == (enc.size : Int)) = true := by
        have : j = enc.size := by omega
        simp [this]
      clear HR HW
      go_wp2
      go_ret
      exact ⟨rfl, hb⟩
end Go.Proofs.Qxb6600421a
