/-
  SEAT b6601350a: namePlacesFit (its answer true gives the domain) and the guard.
-/
import Derived.Test.Qxb6601350aMid
namespace Go.Proofs.Qxb6601350a
open Go.RowKit

theorem guard_any (s t : ByteArray) (f : Bool) (w : World) (hs : s.size ≤ maxLen) (ht : t.size ≤ maxLen) (b : Bool) (hb : decide (s.size + t.size ≤ 1048576) = b) :
    Calls Try.prog 20 #[.string s, .string t, .bool f] w fun e w' => e = .returned (.bool b) ∧ w = w' := by
  subst hb
  unfold maxLen at hs ht
  go_enter Try.func20, Try.ntmps20
  go_wp2
  all_goals
    go_ret
    exact ⟨ret_bool (by rw [Bool.eq_iff_iff]; simp; omega), rfl⟩

/-- What the answer says. -/
def FitAns (text mask : ByteArray) (e : Ending) : Prop := ∃ b, e = .returned (.bool b) ∧ (b = true → mask.size = text.size ∧ Fit text.data.toList mask.data.toList)
theorem fitAns_no (text mask : ByteArray) : FitAns text mask (.returned (.bool false)) := ⟨false, rfl, fun h => by cases h⟩
theorem fitAns_yes {text mask : ByteArray} (h : mask.size = text.size) (h' : Fit text.data.toList mask.data.toList) : FitAns text mask (.returned (.bool true)) := ⟨true, rfl, fun _ => ⟨h, h'⟩⟩

/-- At round r: it began at k; every unit met so far was good. -/
def FitSt (text mask : ByteArray) (k : Nat) : Prop := ∃ r, (stAt text.data.toList mask.data.toList false r).at_ = k ∧ ∀ r', r' < r → Good text.data.toList mask.data.toList (stAt text.data.toList mask.data.toList false r').at_

theorem fitSt_zero (text mask : ByteArray) : FitSt text mask 0 := ⟨0, rfl, fun _ h => by omega⟩
theorem fitSt_next {text mask : ByteArray} {k : Nat} (h : FitSt text mask k) (hg : Good text.data.toList mask.data.toList k) : FitSt text mask (nextOf text.data.toList mask.data.toList k) := by
  obtain ⟨r, h1, h2⟩ := h
  refine ⟨r + 1, ?_, ?_⟩
  · show (step _ _ _ _).at_ = _; rw [step_at, h1]
  · intro r' hr
    by_cases e : r' = r
    · subst e; rw [h1]; exact hg
    · exact h2 r' (by omega)
theorem fitSt_end {text mask : ByteArray} {k : Nat} (h : FitSt text mask k) (hk : ¬ k < text.size) : Fit text.data.toList mask.data.toList := by
  obtain ⟨r, h1, h2⟩ := h
  intro fold r'' hall
  have hlt : r'' < r := by
    rcases Nat.lt_or_ge r'' r with h | h
    · exact h
    · have := hall r h
      rw [at_fold _ _ fold false, h1, ← Lib.size_eq] at this
      exact absurd this hk
  rw [at_fold _ _ fold false]
  exact h2 r'' hlt

theorem isBr_at (mask : ByteArray) (k : Nat) (h : k < mask.size) : isBr mask.data.toList k = (mask[k] == 0) := by unfold isBr; rw [getD_at mask k h]
theorem good_plain {text mask : ByteArray} {k : Nat} (h : k < mask.size) (hm : ¬ (mask[k].toNat : Int) = 0) : Good text.data.toList mask.data.toList k ∧ nextOf text.data.toList mask.data.toList k = k + 1 := by
  have hb : isBr mask.data.toList k = false := by
    rw [isBr_at mask k h, beq_eq_false_iff_ne]; intro e; exact hm (by rw [e]; rfl)
  refine ⟨fun h' => ?_, ?_⟩
  · rw [hb] at h'; cases h'
  · unfold nextOf; rw [hb]; rfl

/-- The first ']' behind k stands at j. -/
theorem close_at {text : ByteArray} {a j : Nat} (ha : a ≤ j) (hj : j < text.size) (h93 : (text[j].toNat : Int) = 93) (hno : (93 : UInt8) ∉ (text.data.toList.drop a).take (j - a)) : Lib.indexByte (text.data.toList.drop a) 93 = ((j - a : Nat) : Int) := by
  apply index_hit _ _ _ hno
  rw [List.getElem?_drop]
  have e : a + (j - a) = j := by omega
  have hl : j < text.data.toList.length := by simpa using hj
  rw [e, List.getElem?_eq_getElem hl]
  have : text[j] = 93 := u8_eq_of (n := 93) h93 (by decide)
  exact congrArg some this
theorem no93_step {text : ByteArray} {a j : Nat} (ha : a ≤ j) (hj : j < text.size) (h : (93 : UInt8) ∉ (text.data.toList.drop a).take (j - a)) (hc : ¬ (text[j].toNat : Int) = 93) : (93 : UInt8) ∉ (text.data.toList.drop a).take (j + 1 - a) := by
  have hl : text.data.toList.length = text.size := (Lib.size_eq text).symm
  have hlt : j - a < (text.data.toList.drop a).length := by rw [List.length_drop]; omega
  have e : j + 1 - a = (j - a) + 1 := by omega
  rw [e, List.take_succ_eq_append_getElem hlt, List.mem_append]
  simp only [List.mem_singleton, not_or]
  refine ⟨h, ?_⟩
  rw [List.getElem_drop]
  have e2 : a + (j - a) = j := by omega
  simp only [e2]
  intro e3
  have : text[j] = 93 := e3.symm
  exact hc (by rw [this]; rfl)

theorem good_bracket {text mask : ByteArray} {k j : Nat} (hm : mask.size = text.size) (hk : k < text.size) (h0 : (mask[k].toNat : Int) = 0) (h91 : (text[k].toNat : Int) = 91) (hkj : k + 1 < j) (hj : j < text.size) (h93 : (text[j].toNat : Int) = 93) (hno : (93 : UInt8) ∉ (text.data.toList.drop (k + 1)).take (j - (k + 1)))
    (hmj : (mask[j].toNat : Int) = 0) : Good text.data.toList mask.data.toList k ∧ nextOf text.data.toList mask.data.toList k = j + 1 := by
  have hb : isBr mask.data.toList k = true := by
    rw [isBr_at mask k (by omega), beq_iff_eq]; exact u8_eq_of (n := 0) h0 (by decide)
  have hc := close_at (by omega) hj h93 hno
  have hcl : close text.data.toList k = j - (k + 1) := by unfold close; rw [hc]; omega
  have e : k + 1 + close text.data.toList k = j := by omega
  refine ⟨fun _ => ⟨?_, by omega, by rw [hc]; omega, ?_, ?_⟩, ?_⟩
  · rw [getD_at text k hk]; exact u8_eq_of (n := 91) h91 (by decide)
  · rw [e, ← Lib.size_eq]; exact hj
  · rw [e, getD_at mask j (by omega)]; exact u8_eq_of (n := 0) hmj (by decide)
  · unfold nextOf; rw [hb, e]; rfl

set_option maxHeartbeats 2000000 in
theorem fit_any (text mask : ByteArray) (w : World) (hs : text.size ≤ 524288) (_hs2 : mask.size ≤ 524288) :
    Calls Try.prog 21 #[.string text, .string mask] w fun e w' => FitAns text mask e ∧ w = w' := by
  by_cases hm : mask.size = text.size
  · have HM : Hid (mask.size = text.size) := hm
    have hne : ((mask.size : Int) != (text.size : Int)) = false := by rw [bne_eq_false_iff_eq]; omega
    have hm1 : mask.size ≤ text.size := by omega
    have hm2 : text.size ≤ mask.size := by omega
    clear hm
    go_enter Try.func21, Try.ntmps21
    go_wp2
    go_loop [5] (fun i => ∃ k : Nat, k ≤ text.size ∧ i = .int .i64 k ∧ FitSt text mask k) (fun i => text.size - (intOf i).toNat)
    case atStart => exact ⟨0, Nat.zero_le _, rfl, fitSt_zero _ _⟩
    case round =>
      obtain ⟨k, hk, rfl, hf⟩ := hrel
      by_cases hlt : k < text.size
      · have hltm : k < mask.size := by omega
        by_cases h0 : (mask[k].toNat : Int) = 0
        · have t0 : ((mask[k].toNat : Int) != 0) = false := by simpa using h0
          by_cases h91 : (text[k].toNat : Int) = 91
          · have t1 : ((text[k].toNat : Int) != 91) = false := by simpa using h91
            have H0 : Hid ((mask[k].toNat : Int) = 0) := h0
            have H91 : Hid ((text[k].toNat : Int) = 91) := h91
            clear h0 h91
            go_wp2
            clear t0 t1
            go_loop [6] (fun i => ∃ j : Nat, k + 1 ≤ j ∧ j ≤ text.size ∧ i = .int .i64 j ∧ (93 : UInt8) ∉ (text.data.toList.drop (k + 1)).take (j - (k + 1))) (fun i => text.size - (intOf i).toNat)
            case atStart => exact ⟨k + 1, Nat.le_refl _, by omega, by go_num, by simp⟩
            case round =>
              obtain ⟨j, hj0, hj, rfl, hno⟩ := hrel
              have HN : Hid ((93 : UInt8) ∉ (text.data.toList.drop (k + 1)).take (j - (k + 1))) := hno
              clear hno
              by_cases hjl : j < text.size
              · have hjm : j < mask.size := by omega
                by_cases h93 : (text[j].toNat : Int) = 93
                · have t2 : ((text[j].toNat : Int) != 93) = false := by simpa using h93
                  have H93 : Hid ((text[j].toNat : Int) = 93) := h93
                  have t5 : decide ((text.size : Int) ≤ (j : Int)) = false := decide_eq_false (by omega)
                  clear h93
                  by_cases hjk : j = k + 1
                  · have t3 : ((j : Int) == (k : Int) + 1) = true := by rw [beq_iff_eq]; omega
                    clear hjk
                    go_wp2
                    go_ret
                    exact ⟨fitAns_no _ _, rfl⟩
                  · have t3 : ((j : Int) == (k : Int) + 1) = false := by rw [beq_eq_false_iff_ne]; omega
                    by_cases hmj : (mask[j].toNat : Int) = 0
                    · have t4 : ((mask[j].toNat : Int) != 0) = false := by simpa using hmj
                      have hG := good_bracket HM.out hlt H0.out H91.out (by omega) hjl H93.out HN.out hmj
                      have HF : Hid (FitSt text mask (j + 1)) := by
                        have := fitSt_next hf hG.1
                        rw [hG.2] at this
                        exact this
                      clear hmj hjk hG
                      go_wp2
                      go_round
                      case rel => exact ⟨j + 1, by omega, by go_num, HF.out⟩
                      case measure => simp [intOf]; omega
                    · have t4 : ((mask[j].toNat : Int) != 0) = true := by simpa using hmj
                      clear hmj hjk
                      go_wp2
                      go_ret
                      exact ⟨fitAns_no _ _, rfl⟩
                · have t2 : ((text[j].toNat : Int) != 93) = true := by simpa using h93
                  have HN2 : Hid ((93 : UInt8) ∉ (text.data.toList.drop (k + 1)).take (j + 1 - (k + 1))) := no93_step hj0 hjl HN.out h93
                  clear h93
                  go_wp2
                  go_round
                  case rel => exact ⟨j + 1, by omega, by omega, by go_num, HN2.out⟩
                  case measure => simp [intOf]; omega
              · have t5 : decide ((text.size : Int) ≤ (j : Int)) = true := decide_eq_true (by omega)
                go_wp2
                go_ret
                exact ⟨fitAns_no _ _, rfl⟩
          · have t1 : ((text[k].toNat : Int) != 91) = true := by simpa using h91
            clear h0 h91
            go_wp2
            go_ret
            exact ⟨fitAns_no _ _, rfl⟩
        · have t0 : ((mask[k].toNat : Int) != 0) = true := by simpa using h0
          have hG := good_plain (text := text) hltm h0
          have HF : Hid (FitSt text mask (k + 1)) := by
            have := fitSt_next hf hG.1
            rw [hG.2] at this
            exact this
          clear h0 hG
          go_wp2
          go_round
          case rel => exact ⟨k + 1, by omega, by go_num, HF.out⟩
          case measure => simp [intOf]; omega
      · have HF : Hid (Fit text.data.toList mask.data.toList) := fitSt_end hf hlt
        go_wp2
        go_ret
        exact ⟨fitAns_yes HM.out HF.out, rfl⟩
  · have hne : ((mask.size : Int) != (text.size : Int)) = true := by rw [bne_iff_ne]; omega
    go_enter Try.func21, Try.ntmps21
    go_wp2
    go_ret
    exact ⟨fitAns_no _ _, rfl⟩
end Go.Proofs.Qxb6601350a
