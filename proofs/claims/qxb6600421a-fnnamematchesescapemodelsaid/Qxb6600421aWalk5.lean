/-
  SEAT b6600421a: THE WALKS OF FnNameMatchesEscapeModel (5) AND FnIsSegmentIsImageOfSegment (8).
-/
import Derived.Test.Qxb6600421aEnc
import Derived.Test.Qxb6600421aWalk3
namespace Go.Proofs.Qxb6600421a
open Go.RowKit

theorem bytes15_at (s : ByteArray) (w : World) (hs : s.size ≤ maxLen) (b : Bool) (hb : decide (s.size ≤ 1048576) = b) :
    Calls Try.prog 15 #[.string s] w fun e w' => e = .returned (.bool b) ∧ w = w' :=
  (bytes15 s w hs).mono fun _ _ h => ⟨by rw [h.1, hb], h.2.symm⟩
theorem bytes21_at (s : ByteArray) (w : World) (hs : s.size ≤ maxLen) (b : Bool) (hb : decide (s.size ≤ 1048576) = b) :
    Calls Try.prog 21 #[.string s] w fun e w' => e = .returned (.bool b) ∧ w = w' :=
  (bytes21 s w hs).mono fun _ _ h => ⟨by rw [h.1, hb], h.2.symm⟩
theorem wf_at (s : ByteArray) (w : World) (hs : s.size ≤ 16777216) (b : Bool) (hb : wfL s.data.toList = b) :
    Calls Try.prog 16 #[.string s] w fun e w' => e = .returned (.bool b) ∧ w = w' :=
  (wellFormed_any s w hs).mono fun _ _ h => ⟨by rw [h.1, hb], h.2⟩

/-- zzEncodedAs at what Name gave. -/
theorem enc_of_name (a : ByteArray) (w : World) (h : a.size ≤ 1048576) (hw : wfL a.data.toList = true) :
    Calls Try.prog 17 #[.string ⟨(nameL a.data.toList).toArray⟩, .string a, .bool false] w fun e w' => e = .returned (.bool true) ∧ Below w.heap.size w w' := by
  have hl := name_length a.data.toList
  have e : a.data.toList.length = a.size := by simp
  exact encoded_any ⟨(nameL a.data.toList).toArray⟩ a w (by rw [size_of]; omega) (by omega) hw rfl

set_option maxHeartbeats 1000000 in
theorem walk5 (a0 : ByteArray) (w0 : a0.size ≤ maxLen) (w : World) :
    Calls Try.prog 5 #[.string a0] w fun e w' => e = .returned (.bool true) ∧ Below w.heap.size w w' := by
  by_cases hb : a0.size ≤ 1048576
  · cases hi : wfL a0.data.toList with
    | true =>
      have HW : Hid (wfL a0.data.toList = true) := hi
      clear hi
      go_enter Try.func5, Try.ntmps5
      go_wp2_with (first | (go_at_call 15; refine (bytes15_at _ _ w0 true (decide_eq_true hb)).mono ?_; rintro e w' ⟨rfl, rfl⟩) | (go_at_call 16; refine (wf_at _ _ (by omega) true HW.out).mono ?_; rintro e w' ⟨rfl, rfl⟩) | (go_at_call 12; refine (name_any _ _ (by omega) HW.out).mono ?_; rintro e w1 ⟨rfl, hb1⟩) | (go_at_call 17; refine (enc_of_name _ _ hb HW.out).mono ?_; rintro e w2 ⟨rfl, hb2⟩))
      go_ret
      exact ⟨rfl, hb1.trans (hb2.mono hb1.size)⟩
    | false =>
      have HW : Hid (wfL a0.data.toList = false) := hi
      clear hi
      go_enter Try.func5, Try.ntmps5
      go_wp2_with (first | (go_at_call 15; refine (bytes15_at _ _ w0 true (decide_eq_true hb)).mono ?_; rintro e w' ⟨rfl, rfl⟩) | (go_at_call 16; refine (wf_at _ _ (by omega) false HW.out).mono ?_; rintro e w' ⟨rfl, rfl⟩))
      go_ret
      exact ⟨rfl, Below.refl _ _⟩
  · go_enter Try.func5, Try.ntmps5
    go_wp2_with (go_at_call 15; refine (bytes15_at _ _ w0 false (decide_eq_false hb)).mono ?_; rintro e w' ⟨rfl, rfl⟩)
    go_ret
    exact ⟨rfl, Below.refl _ _⟩

theorem noSN_at (l : List UInt8) (w : World) (hs : l.length ≤ 16777216) (b : Bool) (hb : noSN l = b) :
    Calls Try.prog 22 #[.string ⟨l.toArray⟩] w fun e w' => e = .returned (.bool b) ∧ w = w' :=
  (noSN_any ⟨l.toArray⟩ w (by rw [size_of]; unfold maxLen; omega)).mono fun _ _ h => ⟨by rw [h.1, ← hb], h.2.symm⟩

/-- Segment at what Name gave, where it does not come back. -/
theorem seg_of_name_not (a : ByteArray) (w : World) (h : a.size ≤ 1048576) (hE : ¬ segL (nameL a.data.toList) = a.data.toList) :
    Calls Try.prog 13 #[.string ⟨(nameL a.data.toList).toArray⟩] w fun e w' => (∃ t : ByteArray, e = .returned (.string t) ∧ (t.toList == a.toList) = false) ∧ Below w.heap.size w w' := by
  have hl := name_length a.data.toList
  have e : a.data.toList.length = a.size := by simp
  refine (segment_any ⟨(nameL a.data.toList).toArray⟩ w (by rw [size_of]; omega)).mono ?_
  rintro e w' ⟨rfl, hb⟩
  refine ⟨⟨_, rfl, ?_⟩, hb⟩
  rw [Lib.toList_data, Lib.toList_data]
  simpa using hE

set_option maxHeartbeats 2000000 in
theorem walk8 (a0 : ByteArray) (w0 : a0.size ≤ maxLen) (w : World) :
    Calls Try.prog 8 #[.string a0] w fun e w' => e = .returned (.bool true) ∧ Below w.heap.size w w' := by
  by_cases hb : a0.size ≤ 1048576
  · have hlaw := isSeg_image a0.data.toList
    have hl := name_length a0.data.toList
    have hlen : a0.data.toList.length = a0.size := by simp
    have HNL : Hid ((nameL a0.data.toList).length ≤ 16777216) := by show _ ≤ _; omega
    clear hl hlen
    by_cases h1 : a0.data.toList = []
    · have e1 : a0.toList.isEmpty = true := by rw [Lib.toList_data]; simpa using h1
      have HI : Hid (isSeg a0.data.toList = false) := by show isSeg a0.data.toList = false; rw [h1]; rfl
      clear h1 hlaw
      go_enter Try.func8, Try.ntmps8
      go_wp2_with (first | (go_at_call 21; refine (bytes21_at _ _ w0 true (decide_eq_true hb)).mono ?_; rintro e w' ⟨rfl, rfl⟩) | (go_at_call 19; refine (isSeg_at _ _ (by omega) false HI.out).mono ?_; rintro e w' ⟨rfl, rfl⟩))
      go_ret
      exact ⟨rfl, Below.refl _ _⟩
    · have e1 : a0.toList.isEmpty = false := by rw [Lib.toList_data]; simpa using h1
      by_cases h2 : a0.data.toList = [46]
      · have e2 : (a0.toList == [46]) = true := by rw [Lib.toList_data]; simpa using h2
        have HI : Hid (isSeg a0.data.toList = false) := by show isSeg a0.data.toList = false; rw [h2]; rfl
        clear h1 h2 hlaw
        go_enter Try.func8, Try.ntmps8
        go_wp2_with (first | (go_at_call 21; refine (bytes21_at _ _ w0 true (decide_eq_true hb)).mono ?_; rintro e w' ⟨rfl, rfl⟩) | (go_at_call 19; refine (isSeg_at _ _ (by omega) false HI.out).mono ?_; rintro e w' ⟨rfl, rfl⟩))
        go_ret
        exact ⟨rfl, Below.refl _ _⟩
      · have e2 : (a0.toList == [46]) = false := by rw [Lib.toList_data]; simpa using h2
        cases hw : wfL a0.data.toList with
        | false =>
          have HI : Hid (isSeg a0.data.toList = false) := by show isSeg a0.data.toList = false; rw [hlaw, hw]; simp
          have HW : Hid (wfL a0.data.toList = false) := hw
          clear h1 h2 hlaw hw
          go_enter Try.func8, Try.ntmps8
          go_wp2_with (first | (go_at_call 21; refine (bytes21_at _ _ w0 true (decide_eq_true hb)).mono ?_; rintro e w' ⟨rfl, rfl⟩) | (go_at_call 19; refine (isSeg_at _ _ (by omega) false HI.out).mono ?_; rintro e w' ⟨rfl, rfl⟩) | (go_at_call 16; refine (wf_at _ _ (by omega) false HW.out).mono ?_; rintro e w' ⟨rfl, rfl⟩))
          go_ret
          exact ⟨rfl, Below.refl _ _⟩
        | true =>
          have HW : Hid (wfL a0.data.toList = true) := hw
          by_cases hE : segL (nameL a0.data.toList) = a0.data.toList
          · have HE : Hid (segL (nameL a0.data.toList) = a0.data.toList) := hE
            cases hn : noSN (nameL a0.data.toList) with
            | true =>
              have HI : Hid (isSeg a0.data.toList = true) := by show isSeg a0.data.toList = true; rw [hlaw, hw, hE, hn]; simp [h1, h2]
              have HN : Hid (noSN (nameL a0.data.toList) = true) := hn
              clear h1 h2 hlaw hw hE hn
              go_enter Try.func8, Try.ntmps8
              go_wp2_with (first | (go_at_call 21; refine (bytes21_at _ _ w0 true (decide_eq_true hb)).mono ?_; rintro e w' ⟨rfl, rfl⟩) | (go_at_call 19; refine (isSeg_at _ _ (by omega) true HI.out).mono ?_; rintro e w' ⟨rfl, rfl⟩) | (go_at_call 16; refine (wf_at _ _ (by omega) true HW.out).mono ?_; rintro e w' ⟨rfl, rfl⟩) | (go_at_call 12; refine (name_any _ _ (by omega) HW.out).mono ?_; rintro e w1 ⟨rfl, hb1⟩) | (go_at_call 13; refine (seg_of_name _ _ hb HE.out).mono ?_; rintro e w2 ⟨rfl, hb2⟩) | (go_at_call 22; refine (noSN_at _ _ HNL.out true HN.out).mono ?_; rintro e w' ⟨rfl, rfl⟩))
              go_ret
              exact ⟨rfl, hb1.trans (hb2.mono hb1.size)⟩
            | false =>
              have HI : Hid (isSeg a0.data.toList = false) := by show isSeg a0.data.toList = false; rw [hlaw, hn]; simp
              have HN : Hid (noSN (nameL a0.data.toList) = false) := hn
              clear h1 h2 hlaw hw hE hn
              go_enter Try.func8, Try.ntmps8
              go_wp2_with (first | (go_at_call 21; refine (bytes21_at _ _ w0 true (decide_eq_true hb)).mono ?_; rintro e w' ⟨rfl, rfl⟩) | (go_at_call 19; refine (isSeg_at _ _ (by omega) false HI.out).mono ?_; rintro e w' ⟨rfl, rfl⟩) | (go_at_call 16; refine (wf_at _ _ (by omega) true HW.out).mono ?_; rintro e w' ⟨rfl, rfl⟩) | (go_at_call 12; refine (name_any _ _ (by omega) HW.out).mono ?_; rintro e w1 ⟨rfl, hb1⟩) | (go_at_call 13; refine (seg_of_name _ _ hb HE.out).mono ?_; rintro e w2 ⟨rfl, hb2⟩) | (go_at_call 22; refine (noSN_at _ _ HNL.out false HN.out).mono ?_; rintro e w' ⟨rfl, rfl⟩))
              go_ret
              exact ⟨rfl, hb1.trans (hb2.mono hb1.size)⟩
          · have HI : Hid (isSeg a0.data.toList = false) := by
              show isSeg a0.data.toList = false
              rw [hlaw]; simp [hE]
            have HE : Hid (¬ segL (nameL a0.data.toList) = a0.data.toList) := hE
            clear h1 h2 hlaw hw hE
            go_enter Try.func8, Try.ntmps8
            go_wp2_with (first | (go_at_call 21; refine (bytes21_at _ _ w0 true (decide_eq_true hb)).mono ?_; rintro e w' ⟨rfl, rfl⟩) | (go_at_call 19; refine (isSeg_at _ _ (by omega) false HI.out).mono ?_; rintro e w' ⟨rfl, rfl⟩) | (go_at_call 16; refine (wf_at _ _ (by omega) true HW.out).mono ?_; rintro e w' ⟨rfl, rfl⟩) | (go_at_call 12; refine (name_any _ _ (by omega) HW.out).mono ?_; rintro e w1 ⟨rfl, hb1⟩) | (go_at_call 13; refine (seg_of_name_not _ _ hb HE.out).mono ?_; rintro e w2 ⟨⟨t, rfl, ht⟩, hb2⟩))
            go_ret
            exact ⟨rfl, hb1.trans (hb2.mono hb1.size)⟩
  · go_enter Try.func8, Try.ntmps8
    go_wp2_with (go_at_call 21; refine (bytes21_at _ _ w0 false (decide_eq_false hb)).mono ?_; rintro e w' ⟨rfl, rfl⟩)
    go_ret
    exact ⟨rfl, Below.refl _ _⟩
end Go.Proofs.Qxb6600421a
