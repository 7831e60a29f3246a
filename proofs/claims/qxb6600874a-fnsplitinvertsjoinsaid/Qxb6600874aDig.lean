/-
  SEAT b6600874a: isDigitByte, allDigits, digitsModel, split, ZZsplit, the bounds.
-/
import Derived.Test.Qxb6600874aLib
import Derived.Laws.IdiomStrings
import Derived.Deep.RegionWith
namespace Go.Proofs.Qxb6600874a
open Go.RowKit

theorem dig_hit {n v : Int} (h : (n == v) = true) (h1 : 48 ≤ v) (h2 : v ≤ 57) : true = digI n := by
  have e : n = v := by simpa using h
  unfold digI; simp; omega
theorem dig_miss {n : Int} (h48 : (n == 48) = false) (h49 : (n == 49) = false) (h50 : (n == 50) = false) (h51 : (n == 51) = false) (h52 : (n == 52) = false) (h53 : (n == 53) = false) (h54 : (n == 54) = false) (h55 : (n == 55) = false) (h56 : (n == 56) = false) (h57 : (n == 57) = false) : false = digI n := by
  simp only [beq_eq_false_iff_ne] at h48 h49 h50 h51 h52 h53 h54 h55 h56 h57
  unfold digI; symm; rw [Bool.and_eq_false_iff]; simp; omega

set_option maxHeartbeats 1000000 in
theorem isDigitByte_any (n : Int) (w : World) :
    Calls Try.prog 17 #[.int .u8 n] w fun e w' => e = .returned (.bool (digI n)) ∧ w = w' := by
  go_enter Try.func17, Try.ntmps17
  go_wp2
  all_goals
    go_ret
    refine ⟨ret_bool ?_, rfl⟩
    first
      | (have hh : (n == 48) = true := by assumption
         exact dig_hit hh (by omega) (by omega))
      | (have hh : (n == 49) = true := by assumption
         exact dig_hit hh (by omega) (by omega))
      | (have hh : (n == 50) = true := by assumption
         exact dig_hit hh (by omega) (by omega))
      | (have hh : (n == 51) = true := by assumption
         exact dig_hit hh (by omega) (by omega))
      | (have hh : (n == 52) = true := by assumption
         exact dig_hit hh (by omega) (by omega))
      | (have hh : (n == 53) = true := by assumption
         exact dig_hit hh (by omega) (by omega))
      | (have hh : (n == 54) = true := by assumption
         exact dig_hit hh (by omega) (by omega))
      | (have hh : (n == 55) = true := by assumption
         exact dig_hit hh (by omega) (by omega))
      | (have hh : (n == 56) = true := by assumption
         exact dig_hit hh (by omega) (by omega))
      | (have hh : (n == 57) = true := by assumption
         exact dig_hit hh (by omega) (by omega))
      | exact dig_miss (by assumption) (by assumption) (by assumption) (by assumption) (by assumption) (by assumption) (by assumption) (by assumption) (by assumption) (by assumption)

theorem drop_cons (s : ByteArray) (k : Nat) (h : k < s.size) : s.data.toList.drop k = s[k] :: s.data.toList.drop (k + 1) := by
  rw [List.drop_eq_getElem_cons (by simpa using h)]; rfl
theorem drop_end (s : ByteArray) (k : Nat) (h : ¬ k < s.size) : s.data.toList.drop k = [] :=
  List.drop_eq_nil_of_le (by simpa using Nat.le_of_not_lt h)

/-- What '[]byte(s)' lays, told by what it is good for. -/
theorem bytes_laid (s : ByteArray) (w : World) : ∃ cap w1, (convert 9 28 (.string s)).run Try.prog w = .ok (.slice (some ⟨w.heap.size, 0, none⟩) s.size cap) w1 ∧
    (∀ j (h : j < s.size), w1.cell? ⟨w.heap.size, j, none⟩ = some (.int .u8 (s[j].toNat : Int))) ∧ Below w.heap.size w w1 := by
  refine ⟨_, _, run_bytes_of_string (P := Try.prog) w 9 28 5 s Try.underlying9 Try.underlying28 Try.underlying5, ?_, ?_⟩
  · intro j h
    have := World.cell?_alloc_mark w.drew (bytesRow s (grownCap w s.size 0 5)) 5 ((bytesRow s (grownCap w s.size 0 5)).size, (bytesRow s (grownCap w s.size 0 5)).size + 1) j
    exact this.trans (bytesRow_at s _ j h)
  · exact ((Below.refl _ _).drew).alloc (Nat.le_refl _) _

theorem dig_out {n : Int} (h : n < 48 ∨ 57 < n) : digI n = false := by unfold digI; rw [Bool.and_eq_false_iff]; simp; omega
theorem dig_in {n : Int} (h : 48 ≤ n ∧ n ≤ 57) : digI n = true := by unfold digI; simp; omega
theorem digs_ne {l : List UInt8} (h : ¬ l = []) : digs l = allD l := by
  cases l with
  | nil => exact absurd rfl h
  | cons c l => rfl
theorem allD_cons (c : UInt8) (l : List UInt8) : allD (c :: l) = (digI (c.toNat : Int) && allD l) := rfl

set_option maxHeartbeats 1000000 in
theorem allDigits_any (s : ByteArray) (w : World) (hs : s.size ≤ 16777216) :
    Calls Try.prog 15 #[.string s] w fun e w' => e = .returned (.bool (digs s.data.toList)) ∧ Below w.heap.size w w' := by
  by_cases h1 : s.data.toList = []
  · have e1 : s.toList.isEmpty = true := by rw [Lib.toList_data]; simpa using h1
    have HH : Hid (s.data.toList = []) := h1
    clear h1
    go_enter Try.func15, Try.ntmps15
    go_wp2
    go_ret
    exact ⟨ret_bool (by rw [HH.out]; rfl), Below.refl _ _⟩
  · have e1 : s.toList.isEmpty = false := by rw [Lib.toList_data]; simpa using h1
    have HH : Hid (digs s.data.toList = allD s.data.toList) := digs_ne h1
    clear h1
    obtain ⟨cap, w1, hcv, hcell, hb⟩ := bytes_laid s w
    go_enter Try.func15, Try.ntmps15
    go_wp2
    clear hcv
    go_loop [10] (fun i => ∃ k : Nat, k ≤ s.size ∧ i = .int .i64 k ∧ allD (s.data.toList.drop k) = allD s.data.toList) (fun i => s.size - (intOf i).toNat)
    case atStart => exact ⟨0, Nat.zero_le _, rfl, rfl⟩
    case round =>
      obtain ⟨k, hk, rfl, hr⟩ := hrel
      have HR : Hid (allD (s.data.toList.drop k) = allD s.data.toList) := hr
      clear hr
      by_cases hlt : k < s.size
      · have hc := hcell k hlt
        have HC : Hid (∀ j (h : j < s.size), w1.cell? ⟨w.heap.size, j, none⟩ = some (.int .u8 (s[j].toNat : Int))) := hcell
        clear hcell
        go_wp2
        · have t : (s[k].toNat : Int) < 48 ∨ 57 < (s[k].toNat : Int) := by assumption
          go_ret
          exact ⟨ret_bool (by rw [HH.out, ← HR.out, drop_cons s k hlt, allD_cons, dig_out t]; rfl), hb⟩
        · have t : 48 ≤ (s[k].toNat : Int) ∧ (s[k].toNat : Int) ≤ 57 := by assumption
          go_round
          case rel => exact ⟨k + 1, by omega, by go_num, by rw [← HR.out, drop_cons s k hlt, allD_cons, dig_in t]; rfl⟩
          case measure => simp [intOf]; omega
        · have t : (s[k].toNat : Int) < 48 := by assumption
          go_ret
          exact ⟨ret_bool (by rw [HH.out, ← HR.out, drop_cons s k hlt, allD_cons, dig_out (.inl t)]; rfl), hb⟩
      · go_wp2
        go_ret
        exact ⟨ret_bool (by rw [HH.out, ← HR.out, drop_end s k hlt]; rfl), hb⟩

theorem allD_bad (s : ByteArray) (m : Nat) (h : m < s.size) (hd : digI (s[m].toNat : Int) = false) : allD s.data.toList = false := by
  have e : s.data.toList = s.data.toList.take m ++ s.data.toList.drop m := (List.take_append_drop m _).symm
  rw [e, drop_cons s m h]
  unfold allD
  rw [List.all_append, List.all_cons]
  have : digB s[m] = false := hd
  rw [this]; simp

set_option maxHeartbeats 1000000 in
theorem digitsModel_any (s : ByteArray) (w : World) (hs : s.size ≤ 16777216) :
    Calls Try.prog 13 #[.string s] w fun e w' => e = .returned (.bool (digs s.data.toList)) ∧ w = w' := by
  have hlen : s.size = s.data.toList.length := Lib.size_eq s
  by_cases h1 : s.size = 0
  · have e1 : ((s.size : Int) == 0) = true := by simpa using h1
    have HH : Hid (digs s.data.toList = false) := by
      show digs _ = _
      have : s.data.toList = [] := List.eq_nil_of_length_eq_zero (by omega)
      rw [this]; rfl
    clear h1 hlen
    go_enter Try.func13, Try.ntmps13
    go_wp2
    go_ret
    exact ⟨ret_bool (by rw [HH.out]), rfl⟩
  · have e1 : ((s.size : Int) == 0) = false := by simpa using h1
    have HH : Hid (digs s.data.toList = allD s.data.toList) := by
      have : s.data.toList ≠ [] := by intro e; rw [e] at hlen; exact h1 hlen
      exact digs_ne this
    clear h1 hlen
    go_enter Try.func13, Try.ntmps13
    go_wp2
    go_loop [4] (fun i => ∃ k : Nat, k ≤ s.size ∧ i = .int .i64 k ∧ allD (s.data.toList.drop k) = true) (fun i => (intOf i).toNat)
    case atStart => exact ⟨s.size, Nat.le_refl _, rfl, by rw [drop_end s s.size (by omega)]; rfl⟩
    case round =>
      obtain ⟨k, hk, rfl, hr⟩ := hrel
      have HR : Hid (allD (s.data.toList.drop k) = true) := hr
      clear hr
      by_cases hlt : 0 < k
      · obtain ⟨m, rfl⟩ : ∃ m, k = m + 1 := ⟨k - 1, by omega⟩
        have hlt2 : m < s.size := by omega
        have i1 : (0 : Int) ≤ ((m + 1 : Nat) : Int) - 1 := by omega
        have i2 : ((m + 1 : Nat) : Int) - 1 < (s.size : Int) := by omega
        cases hd : digI (s[m].toNat : Int) with
        | true =>
          go_wp2_with (go_at_call 17; refine (isDigitByte_any _ _).mono ?_; rintro e w' ⟨rfl, rfl⟩)
          go_round
          case rel => exact ⟨m, by omega, rfl, by rw [drop_cons s m hlt2, allD_cons, hd, HR.out]; rfl⟩
          case measure => simp [intOf]
        | false =>
          go_wp2_with (go_at_call 17; refine (isDigitByte_any _ _).mono ?_; rintro e w' ⟨rfl, rfl⟩)
          go_ret
          exact ⟨ret_bool (by rw [HH.out, allD_bad s m hlt2 hd]), rfl⟩
      · have h0 : k = 0 := by omega
        have HK : Hid (k = 0) := h0
        clear h0
        go_wp2
        go_ret
        refine ⟨ret_bool ?_, rfl⟩
        have := HR.out
        rw [HK.out] at this
        rw [HH.out]
        exact this.symm
/-! ### split -/
theorem size_of (l : List UInt8) : (⟨l.toArray⟩ : ByteArray).size = l.length := by show l.toArray.size = _; simp

theorem allDigits_at (l : List UInt8) (w : World) (hs : l.length ≤ 16777216) (b : Bool) (hb : digs l = b) :
    Calls Try.prog 15 #[.string ⟨l.toArray⟩] w fun e w' => e = .returned (.bool b) ∧ Below w.heap.size w w' :=
  (allDigits_any ⟨l.toArray⟩ w (by rw [size_of]; exact hs)).mono fun _ _ h => ⟨by rw [h.1, ← hb], h.2⟩

theorem trim_len : ∀ l : List UInt8, (trimL l).length ≤ l.length
  | [] => Nat.le_refl _
  | b :: l => by rw [trimL]; split <;> simp
theorem cut_len : ∀ l : List UInt8, (cutL l).1.length ≤ l.length ∧ (cutL l).2.1.length ≤ l.length
  | [] => ⟨Nat.le_refl _, Nat.le_refl _⟩
  | b :: l => by
    have ih := cut_len l
    rw [cutL]; split
    · simp
    · simp; omega

theorem cut_list (l : List UInt8) (w : World) (hs : l.length ≤ 16777216) (a f : List UInt8) (p : Bool) (h : cutL l = (a, f, p)) :
    Calls Try.prog 18 #[.string ⟨l.toArray⟩, .string ⟨#[46]⟩] w fun e w' => e = .returned (.tuple #[.string ⟨a.toArray⟩, .string ⟨f.toArray⟩, .bool p]) ∧ Below w.heap.size w w' :=
  (cut_any ⟨l.toArray⟩ w (by rw [size_of]; exact hs)).mono fun _ _ g => ⟨by rw [g.1]; show Ending.returned (.tuple #[.string ⟨(cutL l).1.toArray⟩, .string ⟨(cutL l).2.1.toArray⟩, .bool (cutL l).2.2]) = _; rw [h], g.2⟩

set_option maxHeartbeats 1000000 in
theorem split_any (s : ByteArray) (w : World) (hs : s.size ≤ 16777216) :
    Calls Try.prog 16 #[.string s] w fun e w' => e = .returned (.tuple #[.string ⟨(splitL s.data.toList).1.toArray⟩, .string ⟨(splitL s.data.toList).2.1.toArray⟩, .bool (splitL s.data.toList).2.2]) ∧ Below w.heap.size w w' := by
  have hlen : s.data.toList.length = s.size := (Lib.size_eq s).symm
  have ht := trim_len s.data.toList
  have hc := cut_len (trimL s.data.toList)
  have hsp : splitL s.data.toList = if !digs (cutL (trimL s.data.toList)).1 || ((cutL (trimL s.data.toList)).2.2 && !digs (cutL (trimL s.data.toList)).2.1) then ([], [], false) else ((cutL (trimL s.data.toList)).1, (cutL (trimL s.data.toList)).2.1, true) := rfl
  rw [hsp]
  have HT : Hid ((trimL s.data.toList).length ≤ 16777216) := by show _ ≤ _; omega
  obtain ⟨a, f, p, hcut⟩ : ∃ a f p, cutL (trimL s.data.toList) = (a, f, p) := ⟨_, _, _, rfl⟩
  rw [hcut] at hc ⊢
  have HC : Hid (cutL (trimL s.data.toList) = (a, f, p)) := hcut
  have HA : Hid (a.length ≤ 16777216) := by show _ ≤ _; simp at hc; omega
  have HF : Hid (f.length ≤ 16777216) := by show _ ≤ _; simp at hc; omega
  clear hc ht hlen hsp hcut
  cases hda : digs a with
  | false =>
    have HDA : Hid (digs a = false) := hda
    clear hda
    go_enter Try.func16, Try.ntmps16
    go_wp2_with (first | (go_at_call 19; refine (trim_any _ _).mono ?_; rintro e w' ⟨rfl, rfl⟩) | (go_at_call 18; refine (cut_list _ _ HT.out a f p HC.out).mono ?_; rintro e w1 ⟨rfl, hb1⟩) | (go_at_call 15; refine (allDigits_at a _ HA.out false HDA.out).mono ?_; rintro e w2 ⟨rfl, hb2⟩))
    go_ret3
    exact ⟨rfl, hb1.trans (hb2.mono hb1.size)⟩
  | true =>
    have HDA : Hid (digs a = true) := hda
    clear hda
    cases p with
    | false =>
      go_enter Try.func16, Try.ntmps16
      go_wp2_with (first | (go_at_call 19; refine (trim_any _ _).mono ?_; rintro e w' ⟨rfl, rfl⟩) | (go_at_call 18; refine (cut_list _ _ HT.out a f false HC.out).mono ?_; rintro e w1 ⟨rfl, hb1⟩) | (go_at_call 15; refine (allDigits_at a _ HA.out true HDA.out).mono ?_; rintro e w2 ⟨rfl, hb2⟩))
      go_ret3
      exact ⟨rfl, hb1.trans (hb2.mono hb1.size)⟩
    | true =>
      cases hdf : digs f with
      | false =>
        have HDF : Hid (digs f = false) := hdf
        clear hdf
        go_enter Try.func16, Try.ntmps16
        go_wp2_with (first | (go_at_call 19; refine (trim_any _ _).mono ?_; rintro e w' ⟨rfl, rfl⟩) | (go_at_call 18; refine (cut_list _ _ HT.out a f true HC.out).mono ?_; rintro e w1 ⟨rfl, hb1⟩) | (go_at_call_of 15 (a); refine (allDigits_at a _ HA.out true HDA.out).mono ?_; rintro e w2 ⟨rfl, hb2⟩) | (go_at_call_of 15 (f); refine (allDigits_at f _ HF.out false HDF.out).mono ?_; rintro e w3 ⟨rfl, hb3⟩))
        go_ret3
        exact ⟨rfl, hb1.trans ((hb2.trans (hb3.mono hb2.size)).mono hb1.size)⟩
      | true =>
        have HDF : Hid (digs f = true) := hdf
        clear hdf
        go_enter Try.func16, Try.ntmps16
        go_wp2_with (first | (go_at_call 19; refine (trim_any _ _).mono ?_; rintro e w' ⟨rfl, rfl⟩) | (go_at_call 18; refine (cut_list _ _ HT.out a f true HC.out).mono ?_; rintro e w1 ⟨rfl, hb1⟩) | (go_at_call_of 15 (a); refine (allDigits_at a _ HA.out true HDA.out).mono ?_; rintro e w2 ⟨rfl, hb2⟩) | (go_at_call_of 15 (f); refine (allDigits_at f _ HF.out true HDF.out).mono ?_; rintro e w3 ⟨rfl, hb3⟩))
        go_ret3
        exact ⟨rfl, hb1.trans ((hb2.trans (hb3.mono hb2.size)).mono hb1.size)⟩

theorem zzSplit_any (s : ByteArray) (w : World) (hs : s.size ≤ 16777216) :
    Calls Try.prog 10 #[.string s] w fun e w' => e = .returned (.tuple #[.string ⟨(splitL s.data.toList).1.toArray⟩, .string ⟨(splitL s.data.toList).2.1.toArray⟩, .bool (splitL s.data.toList).2.2]) ∧ Below w.heap.size w w' := by
  go_enter Try.func10, Try.ntmps10
  go_wp2_with (go_at_call 16; refine (split_any _ _ hs).mono ?_; rintro e w' ⟨rfl, hb⟩)
  go_ret3
  exact ⟨rfl, hb⟩
end Go.Proofs.Qxb6600874a
