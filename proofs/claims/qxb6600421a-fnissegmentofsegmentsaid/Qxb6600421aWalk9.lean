/-
  SEAT b6600421a: THE WALK OF FnIsSegmentOfSegment.
-/
import Derived.Test.Qxb6600421aIsSeg
import Derived.Test.Qxb6600421aSegm
namespace Go.Proofs.Qxb6600421a
open Go.RowKit

theorem zzIsSegment_list (l : List UInt8) (w : World) (hs : l.length ≤ 16777216) :
    Calls Try.prog 19 #[.string ⟨l.toArray⟩] w fun e w' => e = .returned (.bool (isSeg l)) ∧ w = w' :=
  (zzIsSegment_any ⟨l.toArray⟩ w (by show l.toArray.size ≤ _; simpa using hs)).mono fun _ _ h => ⟨h.1, h.2.symm⟩

theorem head_eq (l : List UInt8) (b : Bool) : (l != [] && l != [46] && b) = (!l.isEmpty && !l == [46] && b) := by cases l <;> rfl

theorem beq_of {a b : Bool} (h : a = b) : (a == b) = true := by rw [h]; simp

set_option maxHeartbeats 1000000 in
theorem walk9 (a0 : ByteArray) (w0 : a0.size ≤ maxLen) (w : World) :
    Calls Try.prog 9 #[.string a0] w fun e w' => e = .returned (.bool true) ∧ Below w.heap.size w w' := by
  by_cases hb : a0.size ≤ 1048576
  · have hd : decide (a0.size ≤ 1048576) = true := decide_eq_true hb
    have hsz : (segL a0.data.toList).length ≤ 16777216 := by
      rw [seg_length]
      have := escs_le a0.data.toList
      have e : a0.data.toList.length = a0.size := by simp
      omega
    have HS : Hid ((segL a0.data.toList).length ≤ 16777216) := hsz
    have HL : Hid (isSeg (segL a0.data.toList) = (a0.data.toList != [] && a0.data.toList != [46] && noSN a0.data.toList)) := isSeg_seg _
    clear hsz
    go_enter Try.func9, Try.ntmps9
    go_wp2_with (first | (go_at_call 23; refine (bytes23 _ _ w0).mono ?_; rintro e w' ⟨rfl, rfl⟩) | (go_at_call 22; refine (noSN_any _ _ w0).mono ?_; rintro e w' ⟨rfl, rfl⟩) | (go_at_call 13; refine (segment_any _ _ hb).mono ?_; rintro e w1 ⟨rfl, hbel⟩) | (go_at_call 19; refine (zzIsSegment_list _ _ HS.out).mono ?_; rintro e w2 ⟨rfl, rfl⟩))
    · have h : a0.toList = [] := by assumption
      rw [Lib.toList_data] at h
      go_ret
      exact ⟨ret_bool (by rw [HL.out, h]; rfl), hbel⟩
    · have h : a0.toList = [46] := by assumption
      rw [Lib.toList_data] at h
      go_ret
      exact ⟨ret_bool (by rw [HL.out, h]; rfl), hbel⟩
    · go_ret
      exact ⟨ret_bool (by rw [HL.out, Lib.toList_data]; exact beq_of (head_eq _ _)), hbel⟩
  · have hd : decide (a0.size ≤ 1048576) = false := decide_eq_false hb
    go_enter Try.func9, Try.ntmps9
    go_wp2_with (go_at_call 23; refine (bytes23 _ _ w0).mono ?_; rintro e w' ⟨rfl, rfl⟩)
    go_ret
    exact ⟨rfl, Below.refl _ _⟩
end Go.Proofs.Qxb6600421a
