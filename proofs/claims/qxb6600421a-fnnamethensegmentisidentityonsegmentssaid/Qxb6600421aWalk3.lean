/-
  SEAT b6600421a: THE WALKS OF FnSegmentThenNameIsIdentity (3) AND FnNameThenSegmentIsIdentityOnSegments (6).
-/
import Derived.Test.Qxb6600421aName
namespace Go.Proofs.Qxb6600421a
open Go.RowKit

theorem size_of (l : List UInt8) : (⟨l.toArray⟩ : ByteArray).size = l.length := by show l.toArray.size = _; simp
theorem bytes_back (a : ByteArray) : (⟨a.data.toList.toArray⟩ : ByteArray) = a := by simp

theorem seg_size (a : ByteArray) (h : a.size ≤ 1048576) : (segL a.data.toList).length ≤ 16777216 := by
  rw [seg_length]
  have := escs_le a.data.toList
  have e : a.data.toList.length = a.size := by simp
  omega

/-- Name at what Segment gave. -/
theorem name_of_seg (a : ByteArray) (w : World) (h : a.size ≤ 1048576) :
    Calls Try.prog 12 #[.string ⟨(segL a.data.toList).toArray⟩] w fun e w' => e = .returned (.string a) ∧ Below w.heap.size w w' := by
  refine (name_any ⟨(segL a.data.toList).toArray⟩ w (by rw [size_of]; exact seg_size a h) (wf_seg _)).mono ?_
  rintro e w' ⟨rfl, hb⟩
  refine ⟨ret_string ?_, hb⟩
  show (⟨(nameL (segL a.data.toList)).toArray⟩ : ByteArray) = a
  rw [name_seg, bytes_back]

theorem bytes11_at (s : ByteArray) (w : World) (hs : s.size ≤ maxLen) (b : Bool) (hb : decide (s.size ≤ 1048576) = b) :
    Calls Try.prog 11 #[.string s] w fun e w' => e = .returned (.bool b) ∧ w = w' :=
  (bytes11 s w hs).mono fun _ _ h => ⟨by rw [h.1, hb], h.2.symm⟩
theorem bytes18_at (s : ByteArray) (w : World) (hs : s.size ≤ maxLen) (b : Bool) (hb : decide (s.size ≤ 1048576) = b) :
    Calls Try.prog 18 #[.string s] w fun e w' => e = .returned (.bool b) ∧ w = w' :=
  (bytes18 s w hs).mono fun _ _ h => ⟨by rw [h.1, hb], h.2.symm⟩

set_option maxHeartbeats 1000000 in
theorem walk3 (a0 : ByteArray) (w0 : a0.size ≤ maxLen) (w : World) :
    Calls Try.prog 3 #[.string a0] w fun e w' => e = .returned (.bool true) ∧ Below w.heap.size w w' := by
  by_cases hb : a0.size ≤ 1048576
  · go_enter Try.func3, Try.ntmps3
    go_wp2_with (first | (go_at_call 11; refine (bytes11_at _ _ w0 true (decide_eq_true hb)).mono ?_; rintro e w' ⟨rfl, rfl⟩) | (go_at_call 13; refine (segment_any _ _ hb).mono ?_; rintro e w1 ⟨rfl, hb1⟩) | (go_at_call 12; refine (name_of_seg _ _ hb).mono ?_; rintro e w2 ⟨rfl, hb2⟩))
    go_ret
    exact ⟨rfl, hb1.trans (hb2.mono hb1.size)⟩
  · go_enter Try.func3, Try.ntmps3
    go_wp2_with (go_at_call 11; refine (bytes11_at _ _ w0 false (decide_eq_false hb)).mono ?_; rintro e w' ⟨rfl, rfl⟩)
    go_ret
    exact ⟨rfl, Below.refl _ _⟩

theorem isSeg_at (s : ByteArray) (w : World) (hs : s.size ≤ 16777216) (b : Bool) (hb : isSeg s.data.toList = b) :
    Calls Try.prog 19 #[.string s] w fun e w' => e = .returned (.bool b) ∧ w = w' :=
  (zzIsSegment_any s w hs).mono fun _ _ h => ⟨by rw [h.1, hb], h.2.symm⟩

/-- Segment at what Name gave of a segment. -/
theorem seg_of_name (a : ByteArray) (w : World) (h : a.size ≤ 1048576) (hE : segL (nameL a.data.toList) = a.data.toList) :
    Calls Try.prog 13 #[.string ⟨(nameL a.data.toList).toArray⟩] w fun e w' => e = .returned (.string a) ∧ Below w.heap.size w w' := by
  have hl := name_length a.data.toList
  have e : a.data.toList.length = a.size := by simp
  refine (segment_any ⟨(nameL a.data.toList).toArray⟩ w (by rw [size_of]; omega)).mono ?_
  rintro e w' ⟨rfl, hb⟩
  refine ⟨ret_string ?_, hb⟩
  show (⟨(segL (nameL a.data.toList)).toArray⟩ : ByteArray) = a
  rw [hE, bytes_back]

set_option maxHeartbeats 1000000 in
theorem walk6 (a0 : ByteArray) (w0 : a0.size ≤ maxLen) (w : World) :
    Calls Try.prog 6 #[.string a0] w fun e w' => e = .returned (.bool true) ∧ Below w.heap.size w w' := by
  by_cases hb : a0.size ≤ 1048576
  · cases hi : isSeg a0.data.toList with
    | true =>
      obtain ⟨hwf, hE⟩ := isSeg_wf hi
      have HW : Hid (wfL a0.data.toList = true) := hwf
      have HE : Hid (segL (nameL a0.data.toList) = a0.data.toList) := hE
      have HI : Hid (isSeg a0.data.toList = true) := hi
      clear hwf hE hi
      go_enter Try.func6, Try.ntmps6
      go_wp2_with (first | (go_at_call 18; refine (bytes18_at _ _ w0 true (decide_eq_true hb)).mono ?_; rintro e w' ⟨rfl, rfl⟩) | (go_at_call 19; refine (isSeg_at _ _ (by omega) true HI.out).mono ?_; rintro e w' ⟨rfl, rfl⟩) | (go_at_call 12; refine (name_any _ _ (by omega) HW.out).mono ?_; rintro e w1 ⟨rfl, hb1⟩) | (go_at_call 13; refine (seg_of_name _ _ hb HE.out).mono ?_; rintro e w2 ⟨rfl, hb2⟩))
      go_ret
      exact ⟨rfl, hb1.trans (hb2.mono hb1.size)⟩
    | false =>
      have HI : Hid (isSeg a0.data.toList = false) := hi
      clear hi
      go_enter Try.func6, Try.ntmps6
      go_wp2_with (first | (go_at_call 18; refine (bytes18_at _ _ w0 true (decide_eq_true hb)).mono ?_; rintro e w' ⟨rfl, rfl⟩) | (go_at_call 19; refine (isSeg_at _ _ (by omega) false HI.out).mono ?_; rintro e w' ⟨rfl, rfl⟩))
      go_ret
      exact ⟨rfl, Below.refl _ _⟩
  · go_enter Try.func6, Try.ntmps6
    go_wp2_with (go_at_call 18; refine (bytes18_at _ _ w0 false (decide_eq_false hb)).mono ?_; rintro e w' ⟨rfl, rfl⟩)
    go_ret
    exact ⟨rfl, Below.refl _ _⟩
end Go.Proofs.Qxb6600421a
