/-
  SEAT b6600874a: THE WALKS OF FnSplitAgreesWithScanner (4) AND FnSplitInvertsJoin (5).
-/
import Derived.Test.Qxb6600874aModel
namespace Go.Proofs.Qxb6600874a
open Go.RowKit

theorem bytes9 (s : ByteArray) (w : World) (hs : s.size ≤ maxLen) (b : Bool) (hb : decide (s.size ≤ 1048576) = b) :
    Calls Try.prog 9 #[.string s] w fun e w' => e = .returned (.bool b) ∧ w = w' := by
  subst hb
  unfold maxLen at hs
  go_enter Try.func9, Try.ntmps9
  go_wp2
  all_goals
    go_ret
    exact ⟨ret_bool (by rw [Bool.eq_iff_iff]; simp; omega), rfl⟩

theorem split_at (s : ByteArray) (w : World) (hs : s.size ≤ 16777216) (A B : List UInt8) (c : Bool) (h : splitL s.data.toList = (A, B, c)) :
    Calls Try.prog 10 #[.string s] w fun e w' => e = .returned (.tuple #[.string ⟨A.toArray⟩, .string ⟨B.toArray⟩, .bool c]) ∧ Below w.heap.size w w' :=
  (zzSplit_any s w hs).mono fun _ _ g => ⟨by rw [g.1, h], g.2⟩
theorem model_at (s : ByteArray) (w : World) (hs : s.size ≤ 16777216) (A B : List UInt8) (c : Bool) (h : splitL s.data.toList = (A, B, c)) :
    Calls Try.prog 11 #[.string s] w fun e w' => e = .returned (.tuple #[.string ⟨A.toArray⟩, .string ⟨B.toArray⟩, .bool c]) ∧ Below w.heap.size w w' :=
  (splitModel_any s w hs).mono fun _ _ g => ⟨by rw [g.1, ← split_scan, h], g.2⟩

set_option maxHeartbeats 1000000 in
theorem walk4 (a0 : ByteArray) (w0 : a0.size ≤ maxLen) (w : World) :
    Calls Try.prog 4 #[.string a0] w fun e w' => e = .returned (.bool true) ∧ Below w.heap.size w w' := by
  by_cases hb : a0.size ≤ 1048576
  · obtain ⟨A, B, c, h⟩ : ∃ A B c, splitL a0.data.toList = (A, B, c) := ⟨_, _, _, rfl⟩
    have HS : Hid (splitL a0.data.toList = (A, B, c)) := h
    clear h
    go_enter Try.func4, Try.ntmps4
    go_wp2_with (first | (go_at_call 9; refine (bytes9 _ _ w0 true (decide_eq_true hb)).mono ?_; rintro e w' ⟨rfl, rfl⟩) | (go_at_call 10; refine (split_at _ _ (by omega) A B c HS.out).mono ?_; rintro e w1 ⟨rfl, hb1⟩) | (go_at_call 11; refine (model_at _ _ (by omega) A B c HS.out).mono ?_; rintro e w2 ⟨rfl, hb2⟩))
    go_ret
    exact ⟨rfl, hb1.trans (hb2.mono hb1.size)⟩
  · go_enter Try.func4, Try.ntmps4
    go_wp2_with (go_at_call 9; refine (bytes9 _ _ w0 false (decide_eq_false hb)).mono ?_; rintro e w' ⟨rfl, rfl⟩)
    go_ret
    exact ⟨rfl, Below.refl _ _⟩

theorem bytes12 (n : Bool) (s t : ByteArray) (w : World) (hs : s.size ≤ maxLen) (ht : t.size ≤ maxLen) (b : Bool) (hb : decide (s.size + t.size ≤ 1048576) = b) :
    Calls Try.prog 12 #[.bool n, .string s, .string t] w fun e w' => e = .returned (.bool b) ∧ w = w' := by
  subst hb
  unfold maxLen at hs ht
  go_enter Try.func12, Try.ntmps12
  go_wp2
  all_goals
    go_ret
    exact ⟨ret_bool (by rw [Bool.eq_iff_iff]; simp; omega), rfl⟩

theorem digits_at (s : ByteArray) (w : World) (hs : s.size ≤ 16777216) (b : Bool) (hb : digs s.data.toList = b) :
    Calls Try.prog 13 #[.string s] w fun e w' => e = .returned (.bool b) ∧ w = w' :=
  (digitsModel_any s w hs).mono fun _ _ g => ⟨by rw [g.1, hb], g.2⟩

theorem app_data (x y : ByteArray) : (x ++ y).data.toList = x.data.toList ++ y.data.toList := by
  rw [ByteArray.data_append, Array.toList_append]
theorem app_size (x y : ByteArray) : (x ++ y).size = x.size + y.size := by
  rw [Lib.size_eq, app_data, List.length_append, ← Lib.size_eq, ← Lib.size_eq]

/-- ZZsplit where it gives back a and b. -/
theorem split_back (t a b : ByteArray) (w : World) (hs : t.size ≤ 16777216) (h : splitL t.data.toList = (a.data.toList, b.data.toList, true)) :
    Calls Try.prog 10 #[.string t] w fun e w' => e = .returned (.tuple #[.string a, .string b, .bool true]) ∧ Below w.heap.size w w' :=
  (split_at t w hs _ _ _ h).mono fun _ _ g => ⟨by rw [g.1, Lib.mk_data, Lib.mk_data], g.2⟩

theorem join_0 {a b : ByteArray} (ha : digs a.data.toList = true) (hb : b.data.toList = []) : splitL a.data.toList = (a.data.toList, b.data.toList, true) := by
  rw [hb]; exact split_plain ha _ (by simpa using trim_digits (r := []) ha)
theorem join_1 {a b : ByteArray} (ha : digs a.data.toList = true) (hb : b.data.toList = []) : splitL ((⟨#[45]⟩ : ByteArray) ++ a).data.toList = (a.data.toList, b.data.toList, true) := by
  rw [hb, app_data]; exact split_plain ha _ (trim_minus _)
theorem join_2 {a b : ByteArray} (ha : digs a.data.toList = true) (hb : digs b.data.toList = true) : splitL (a ++ (⟨#[46]⟩ : ByteArray) ++ b).data.toList = (a.data.toList, b.data.toList, true) := by
  rw [app_data, app_data, List.append_assoc]; exact split_point ha hb _ (trim_digits ha)
theorem join_3 {a b : ByteArray} (ha : digs a.data.toList = true) (hb : digs b.data.toList = true) : splitL ((⟨#[45]⟩ : ByteArray) ++ (a ++ (⟨#[46]⟩ : ByteArray) ++ b)).data.toList = (a.data.toList, b.data.toList, true) := by
  rw [app_data, app_data, app_data, List.append_assoc]; exact split_point ha hb _ (trim_minus _)
theorem size_1 {a : ByteArray} (ha : a.size ≤ 1048576) : ((⟨#[45]⟩ : ByteArray) ++ a).size ≤ 16777216 := by
  rw [app_size]; have : (⟨#[45]⟩ : ByteArray).size = 1 := rfl; omega
theorem size_2 {a b : ByteArray} (ha : a.size + b.size ≤ 1048576) : (a ++ (⟨#[46]⟩ : ByteArray) ++ b).size ≤ 16777216 := by
  rw [app_size, app_size]; have : (⟨#[46]⟩ : ByteArray).size = 1 := rfl; omega
theorem size_3 {a b : ByteArray} (ha : a.size + b.size ≤ 1048576) : ((⟨#[45]⟩ : ByteArray) ++ (a ++ (⟨#[46]⟩ : ByteArray) ++ b)).size ≤ 16777216 := by
  rw [app_size, app_size, app_size]; have : (⟨#[46]⟩ : ByteArray).size = 1 := rfl; have : (⟨#[45]⟩ : ByteArray).size = 1 := rfl; omega

set_option maxHeartbeats 1000000 in
theorem walk5 (neg : Bool) (a b : ByteArray) (w1 : a.size ≤ maxLen) (w2 : b.size ≤ maxLen) (w : World) :
    Calls Try.prog 5 #[.bool neg, .string a, .string b] w fun e w' => e = .returned (.bool true) ∧ Below w.heap.size w w' := by
  by_cases hb : a.size + b.size ≤ 1048576
  · by_cases hl : a.size ≤ 524288 ∧ b.size ≤ 524288
    · obtain ⟨hl1, hl2⟩ := hl
      cases hd : digs a.data.toList with
      | false =>
        have HD : Hid (digs a.data.toList = false) := hd
        clear hd
        go_enter Try.func5, Try.ntmps5
        go_wp2_with (first | (go_at_call 12; refine (bytes12 _ _ _ _ w1 w2 true (decide_eq_true hb)).mono ?_; rintro e w' ⟨rfl, rfl⟩) | (go_at_call 13; refine (digits_at _ _ (by omega) false HD.out).mono ?_; rintro e w' ⟨rfl, rfl⟩))
        go_ret
        exact ⟨rfl, Below.refl _ _⟩
      | true =>
        have HD : Hid (digs a.data.toList = true) := hd
        clear hd
        by_cases hf : b.data.toList = []
        · have e1 : b.toList.isEmpty = true := by rw [Lib.toList_data]; simpa using hf
          have HF : Hid (b.data.toList = []) := hf
          clear hf
          cases neg with
          | false =>
            go_enter Try.func5, Try.ntmps5
            go_wp2_with (first | (go_at_call 12; refine (bytes12 _ _ _ _ w1 w2 true (decide_eq_true hb)).mono ?_; rintro e w' ⟨rfl, rfl⟩) | (go_at_call 13; refine (digits_at _ _ (by omega) true HD.out).mono ?_; rintro e w' ⟨rfl, rfl⟩))
            refine (split_back _ a b _ (by omega) (join_0 HD.out HF.out)).mono ?_
            rintro e wz ⟨rfl, hbz⟩
            go_wp2
            go_ret
            exact ⟨rfl, hbz⟩
          | true =>
            go_enter Try.func5, Try.ntmps5
            go_wp2_with (first | (go_at_call 12; refine (bytes12 _ _ _ _ w1 w2 true (decide_eq_true hb)).mono ?_; rintro e w' ⟨rfl, rfl⟩) | (go_at_call 13; refine (digits_at _ _ (by omega) true HD.out).mono ?_; rintro e w' ⟨rfl, rfl⟩))
            refine (split_back _ a b _ (size_1 (by omega)) (join_1 HD.out HF.out)).mono ?_
            rintro e wz ⟨rfl, hbz⟩
            go_wp2
            go_ret
            exact ⟨rfl, hbz⟩
        · have e1 : b.toList.isEmpty = false := by rw [Lib.toList_data]; simpa using hf
          cases hdf : digs b.data.toList with
          | false =>
            have HDF : Hid (digs b.data.toList = false) := hdf
            clear hdf
            go_enter Try.func5, Try.ntmps5
            go_wp2_with (first | (go_at_call 12; refine (bytes12 _ _ _ _ w1 w2 true (decide_eq_true hb)).mono ?_; rintro e w' ⟨rfl, rfl⟩) | (go_at_call_of 13 (a); refine (digits_at a _ (by omega) true HD.out).mono ?_; rintro e w' ⟨rfl, rfl⟩) | (go_at_call_of 13 (b); refine (digits_at b _ (by omega) false HDF.out).mono ?_; rintro e w' ⟨rfl, rfl⟩))
            go_ret
            exact ⟨rfl, Below.refl _ _⟩
          | true =>
            have HDF : Hid (digs b.data.toList = true) := hdf
            clear hdf
            cases neg with
            | false =>
              go_enter Try.func5, Try.ntmps5
              go_wp2_with (first | (go_at_call 12; refine (bytes12 _ _ _ _ w1 w2 true (decide_eq_true hb)).mono ?_; rintro e w' ⟨rfl, rfl⟩) | (go_at_call_of 13 (a); refine (digits_at a _ (by omega) true HD.out).mono ?_; rintro e w' ⟨rfl, rfl⟩) | (go_at_call_of 13 (b); refine (digits_at b _ (by omega) true HDF.out).mono ?_; rintro e w' ⟨rfl, rfl⟩))
              refine (split_back _ a b _ (size_2 hb) (join_2 HD.out HDF.out)).mono ?_
              rintro e wz ⟨rfl, hbz⟩
              go_wp2
              go_ret
              exact ⟨rfl, hbz⟩
            | true =>
              go_enter Try.func5, Try.ntmps5
              go_wp2_with (first | (go_at_call 12; refine (bytes12 _ _ _ _ w1 w2 true (decide_eq_true hb)).mono ?_; rintro e w' ⟨rfl, rfl⟩) | (go_at_call_of 13 (a); refine (digits_at a _ (by omega) true HD.out).mono ?_; rintro e w' ⟨rfl, rfl⟩) | (go_at_call_of 13 (b); refine (digits_at b _ (by omega) true HDF.out).mono ?_; rintro e w' ⟨rfl, rfl⟩))
              refine (split_back _ a b _ (size_3 hb) (join_3 HD.out HDF.out)).mono ?_
              rintro e wz ⟨rfl, hbz⟩
              go_wp2
              go_ret
              exact ⟨rfl, hbz⟩
    · by_cases hl1 : a.size ≤ 524288
      · have hl2 : 524288 < b.size := by omega
        clear hl
        go_enter Try.func5, Try.ntmps5
        go_wp2_with (go_at_call 12; refine (bytes12 _ _ _ _ w1 w2 true (decide_eq_true hb)).mono ?_; rintro e w' ⟨rfl, rfl⟩)
        go_ret
        exact ⟨rfl, Below.refl _ _⟩
      · clear hl
        go_enter Try.func5, Try.ntmps5
        go_wp2_with (go_at_call 12; refine (bytes12 _ _ _ _ w1 w2 true (decide_eq_true hb)).mono ?_; rintro e w' ⟨rfl, rfl⟩)
        go_ret
        exact ⟨rfl, Below.refl _ _⟩
  · go_enter Try.func5, Try.ntmps5
    go_wp2_with (go_at_call 12; refine (bytes12 _ _ _ _ w1 w2 false (decide_eq_false hb)).mono ?_; rintro e w' ⟨rfl, rfl⟩)
    go_ret
    exact ⟨rfl, Below.refl _ _⟩
end Go.Proofs.Qxb6600874a
