/-
  SEAT b6600421a: THE WALK OF Name, on what is well formed.
-/
import Derived.Test.Qxb6600421aIsSeg
import Derived.Test.Qxb6600421aSegm
namespace Go.Proofs.Qxb6600421a
open Go.RowKit

theorem index_neg : ∀ (l : List UInt8) (c : UInt8), ¬ 0 ≤ Lib.indexByte l c → c ∉ l
  | [], _, _ => by simp
  | b :: l, c, h => by
    have ge := Lib.indexByte_ge l c
    unfold Lib.indexByte at h
    by_cases hb : (b == c) = true
    · rw [if_pos hb] at h; simp at h
    · rw [if_neg hb] at h
      by_cases hi : (Lib.indexByte l c == -1) = true
      · have e : Lib.indexByte l c = -1 := by simpa using hi
        have ih := index_neg l c (by omega)
        have hbc : ¬ b = c := by simpa using hb
        simp only [List.mem_cons, not_or]
        exact ⟨fun e => hbc e.symm, ih⟩
      · rw [if_neg hi] at h
        have : ¬ Lib.indexByte l c = -1 := by simpa using hi
        omega

theorem wf_cut {s : ByteArray} {k : Nat} (h : k < s.size) (hc : s[k] = 37) (hw : wfL (s.data.toList.drop k) = true) : k + 2 < s.size := by
  rcases Nat.lt_or_ge (k + 2) s.size with h2 | h2
  · exact h2
  · rcases short_cases s k h (by omega) with e | ⟨x, e⟩
    · rw [e, hc, wf_short1] at hw; cases hw
    · rw [e, hc, wf_short2] at hw; cases hw

theorem wf_three {s : ByteArray} {k : Nat} (h : k + 2 < s.size) (hc : s[k] = 37) (hw : wfL (s.data.toList.drop k) = true) : 0 ≤ hexV s[k + 1] ∧ 0 ≤ hexV s[k + 2] ∧ wfL (s.data.toList.drop (k + 3)) = true := by
  rw [drop_three s k h, hc, wf_esc] at hw
  simp only [Bool.and_eq_true, decide_eq_true_eq] at hw
  exact ⟨hw.1.1, hw.1.2, hw.2⟩

theorem name_step3 {s : ByteArray} {k : Nat} {acc : List UInt8} (h : k + 2 < s.size) (hc : s[k] = 37) (hr : acc ++ nameL (s.data.toList.drop k) = nameL s.data.toList) : (acc ++ [hexB s[k + 1] s[k + 2]]) ++ nameL (s.data.toList.drop (k + 3)) = nameL s.data.toList := by
  rw [← hr, drop_three s k h, hc, name_esc]; simp
theorem name_step1 {s : ByteArray} {k : Nat} {acc : List UInt8} (h : k < s.size) (hc : s[k] ≠ 37) (hr : acc ++ nameL (s.data.toList.drop k) = nameL s.data.toList) : (acc ++ [s[k]]) ++ nameL (s.data.toList.drop (k + 1)) = nameL s.data.toList := by
  rw [← hr, drop_cons s k h, name_plain hc]; simp
theorem wf_step1 {s : ByteArray} {k : Nat} (h : k < s.size) (hc : s[k] ≠ 37) (hw : wfL (s.data.toList.drop k) = true) : wfL (s.data.toList.drop (k + 1)) = true := by
  rw [drop_cons s k h, wf_plain hc] at hw; exact hw

theorem indexHex_at (c : UInt8) (w : World) :
    Calls Try.prog 26 #[.string ⟨#[48, 49, 50, 51, 52, 53, 54, 55, 56, 57, 65, 66, 67, 68, 69, 70]⟩, .int .u8 (c.toNat : Int)] w fun e w' => e = .returned (.int .i64 (hexV c)) ∧ w = w' :=
  (indexHex_any c w).mono fun _ _ h => ⟨h.1, h.2.symm⟩

theorem contains_at (s : ByteArray) (c : UInt8) (w : World) :
    Calls Try.prog 25 #[.string s, .string ⟨#[c]⟩] w fun e w' => e = .returned (.bool (decide (0 ≤ Lib.indexByte s.data.toList c))) ∧ w = w' :=
  (strings_Contains_one s c w).mono fun _ _ h => ⟨h.1, h.2.symm⟩

set_option maxHeartbeats 1000000 in
theorem name_any (s : ByteArray) (w : World) (hs : s.size ≤ 16777216) (hwf : wfL s.data.toList = true) :
    Calls Try.prog 12 #[.string s] w fun e w' => e = .returned (.string ⟨(nameL s.data.toList).toArray⟩) ∧ Below w.heap.size w w' := by
  obtain ⟨i0, hi, hz0, hz1, hz2⟩ := info_parts Try.info5
  have HWF : Hid (wfL s.data.toList = true) := hwf
  clear hwf
  by_cases hc : 0 ≤ Lib.indexByte s.data.toList 37
  · have hd : decide (0 ≤ Lib.indexByte s.data.toList 37) = true := decide_eq_true hc
    go_enter Try.func12, Try.ntmps12
    go_wp2_with (first | (go_at_call 25; refine (contains_at _ _ _).mono ?_; rintro e w' ⟨rfl, rfl⟩) | (at_make; refine wpList_make_own _ rfl _ _ 26 rfl w.heap.size 5 i0 (.int .u8 0) 1 Try.underlying26 hi hz0 hz1 _ _ _ s.size rfl rfl (by omega) ?b2 ?b3 (Nat.le_refl _) ?_))
    case b2 => first | omega | (rw [hz2]; omega)
    case b3 => unfold maxLen; omega
    intro w0 hown0 hgrow0
    clear hd hc
    go_wp2
    go_loopw [3, 4] (fun v i wr => ∃ (k g cap : Nat) (acc : List UInt8), k ≤ s.size ∧ i = .int .i64 k ∧ v = .slice (some ⟨g, 0, none⟩) acc.length cap ∧ acc.length ≤ k ∧ w.heap.size ≤ g ∧ wr.ownsRow w.heap.size 5 1 (.slice (some ⟨g, 0, none⟩) acc.length cap) acc.length (acc.map byteV) ∧ acc ++ nameL (s.data.toList.drop k) = nameL s.data.toList ∧ wfL (s.data.toList.drop k) = true ∧ Below w.heap.size w wr)
      (fun _ i _ => s.size - (intOf i).toNat)
    case atStart => exact ⟨0, w.heap.size, s.size, [], Nat.zero_le _, rfl, rfl, Nat.le_refl _, Nat.le_refl _, hown0, by simp, HWF.out, (Below.refl _ _).grown hgrow0 (Nat.le_refl _) (fun k h => by cases h)⟩
    case round =>
      obtain ⟨k, g, cap, acc, hk, rfl, rfl, hal, hg, hown, hr, hw, hb⟩ := hrel
      have HR : Hid (acc ++ nameL (s.data.toList.drop k) = nameL s.data.toList) := hr
      have HW : Hid (wfL (s.data.toList.drop k) = true) := hw
      clear hr hw hown0 hgrow0 HWF
      have hsz := hb.size
      by_cases hlt : k < s.size
      · by_cases h37 : (s[k].toNat : Int) = 37
        · have e37 : s[k] = 37 := pc37 h37
          have hlt2 := wf_cut hlt e37 HW.out
          obtain ⟨hh, hl, hw3⟩ := wf_three hlt2 e37 HW.out
          have hR := name_step3 hlt2 e37 HR.out
          have hor := or_hex s[k + 1] s[k + 2] hh hl
          have b1 := hexV_range s[k + 1]
          have b2 := hexV_range s[k + 2]
          have HX1 : Hid (wfL (s.data.toList.drop (k + 3)) = true) := hw3
          have HX2 : Hid ((acc ++ [hexB s[k + 1] s[k + 2]]) ++ nameL (s.data.toList.drop (k + 3)) = nameL s.data.toList) := hR
          have hne : ((s[k].toNat : Int) != 37) = false := by simpa using h37
          clear hw3 hR HR HW e37 h37
          go_wp2_with (first | (go_at_call 26; refine (indexHex_at _ _).mono ?_; rintro e w' ⟨rfl, rfl⟩) | (at_builtin; refine wpList_append_lies _ rfl _ _ 26 rfl w.heap.size 5 i0 (.int .u8 0) 1 1 Try.underlying26 hi hz0 hz1 hz2 rfl (by decide) _ _ _ rfl (hown.alloc _) ⟨wr.heap.size, 0, none⟩ 1 1 [byteV (hexB s[k + 1] s[k + 2])] rfl rfl ?c1 ?c2 (by omega) ?c3 ?c4 ?c5 _ rfl ?_))
          case c1 =>
            intro j u hj
            match j, hj with
            | 0, hj => simp at hj; subst hj; simp [Addr.add, byteV]
          case c2 => intro u hu; simp at hu; subst hu; rfl
          case c3 => unfold maxLen; omega
          case c4 => omega
          case c5 => simp; omega
          intro g' cap' w1 hown' hgrow hat hlt'
          have hO := own_len hown' (show acc.length + 1 = (acc ++ [hexB s[k + 1] s[k + 2]]).length by simp) (byteV_one acc (hexB s[k + 1] s[k + 2]))
          have hB : Below w.heap.size w w1 := (hb.alloc hsz _).grown hgrow (by simp; omega) (fun k h => by simp [Value.ownBlock] at h; omega)
          have hg' : w.heap.size ≤ g' := by rcases hat with h | h <;> first | (simp [Value.ownBlock] at h; omega) | omega
          have HX : Hid (w1.ownsRow w.heap.size 5 1 (.slice (some ⟨g', 0, none⟩) (acc ++ [hexB s[k + 1] s[k + 2]]).length cap') (acc ++ [hexB s[k + 1] s[k + 2]]).length ((acc ++ [hexB s[k + 1] s[k + 2]]).map byteV) ∧ Below w.heap.size w w1) := ⟨hO, hB⟩
          clear hown hown' hgrow hat hlt' hO hB hb hor
          go_wp2
          go_roundw
          case rel => exact ⟨k + 3, g', cap', acc ++ [hexB s[k + 1] s[k + 2]], by omega, by go_num, slice_len (by simp), by simp; omega, hg', HX.out.1, HX2.out, HX1.out, HX.out.2⟩
          case measure => simp [intOf]; omega
        · have e37 : s[k] ≠ 37 := npc37 h37
          have HX1 : Hid (wfL (s.data.toList.drop (k + 1)) = true) := wf_step1 hlt e37 HW.out
          have HX2 : Hid ((acc ++ [s[k]]) ++ nameL (s.data.toList.drop (k + 1)) = nameL s.data.toList) := name_step1 hlt e37 HR.out
          have hne : ((s[k].toNat : Int) != 37) = true := by simpa using h37
          clear HR HW e37 h37
          go_wp2_with (at_builtin; refine wpList_append_lies _ rfl _ _ 26 rfl w.heap.size 5 i0 (.int .u8 0) 1 1 Try.underlying26 hi hz0 hz1 hz2 rfl (by decide) _ _ _ rfl (hown.alloc _) ⟨wr.heap.size, 0, none⟩ 1 1 [byteV s[k]] rfl rfl ?d1 ?d2 (by omega) ?d3 ?d4 ?d5 _ rfl ?_)
          case d1 =>
            intro j u hj
            match j, hj with
            | 0, hj => simp at hj; subst hj; simp [Addr.add, byteV]
          case d2 => intro u hu; simp at hu; subst hu; rfl
          case d3 => unfold maxLen; omega
          case d4 => omega
          case d5 => simp; omega
          intro g' cap' w1 hown' hgrow hat hlt'
          have hO := own_len hown' (show acc.length + 1 = (acc ++ [s[k]]).length by simp) (byteV_one acc s[k])
          have hB : Below w.heap.size w w1 := (hb.alloc hsz _).grown hgrow (by simp; omega) (fun k h => by simp [Value.ownBlock] at h; omega)
          have hg' : w.heap.size ≤ g' := by rcases hat with h | h <;> first | (simp [Value.ownBlock] at h; omega) | omega
          have HX : Hid (w1.ownsRow w.heap.size 5 1 (.slice (some ⟨g', 0, none⟩) (acc ++ [s[k]]).length cap') (acc ++ [s[k]]).length ((acc ++ [s[k]]).map byteV) ∧ Below w.heap.size w w1) := ⟨hO, hB⟩
          clear hown hown' hgrow hat hlt' hO hB hb
          go_wp2
          go_roundw
          case rel => exact ⟨k + 1, g', cap', acc ++ [s[k]], by omega, by go_num, slice_len (by simp), by simp; omega, hg', HX.out.1, HX2.out, HX1.out, HX.out.2⟩
          case measure => simp [intOf]; omega
      · have hcv := run_convert_bytes_back (P := Try.prog) wr 26 9 5 ⟨g, 0, none⟩ cap acc Try.underlying26 Try.underlying5 Try.underlying9 (cells_bytes hown)
        have hE : acc = nameL s.data.toList := by
          have := HR.out
          rw [drop_end s k hlt] at this
          simpa [nameL] using this
        have HEE : Hid (acc = nameL s.data.toList) := hE
        clear hE HR HW hown
        go_wp2
        go_ret
        exact ⟨ret_string (by rw [HEE.out]), hb⟩
  · have hd : decide (0 ≤ Lib.indexByte s.data.toList 37) = false := decide_eq_false hc
    have HN : Hid (nameL s.data.toList = s.data.toList) := name_of_no37 _ (index_neg _ _ hc)
    go_enter Try.func12, Try.ntmps12
    go_wp2_with (go_at_call 25; refine (contains_at _ _ _).mono ?_; rintro e w' ⟨rfl, rfl⟩)
    go_ret
    exact ⟨ret_string (by rw [HN.out]), Below.refl _ _⟩
end Go.Proofs.Qxb6600421a
