/-
  SEAT b6601350a: isName, nameBracket, slices.Index and Contains, namePlacesFit, the guard.
-/
import Derived.Test.Qxb6601350aSmall
namespace Go.Proofs.Qxb6601350a
open Go.RowKit

theorem isName_any (s : ByteArray) (w : World) (hs : s.size ≤ 16777216) : Calls Try.prog 42 #[.string s] w fun e w' => IsBool e ∧ w = w' := by
  by_cases h1 : s.data.toList = []
  · have e1 : s.toList.isEmpty = true := by rw [Lib.toList_data]; simpa using h1
    clear h1
    go_enter Try.func42, Try.ntmps42
    go_wp2
    go_ret
    exact ⟨isBool_mk _, rfl⟩
  · have e1 : s.toList.isEmpty = false := by rw [Lib.toList_data]; simpa using h1
    have h0 : 0 < s.size := by
      rw [Lib.size_eq]
      exact List.length_pos_iff.2 h1
    clear h1
    go_enter Try.func42, Try.ntmps42
    go_wp2_with (go_at_call 45; refine (isNameStart_any _ _).mono ?_; rintro e w' ⟨⟨b1, rfl⟩, rfl⟩; cases b1)
    · go_ret
      exact ⟨isBool_mk _, rfl⟩
    · go_loop [3] (fun i => ∃ k : Nat, k ≤ s.size ∧ i = .int .i64 k) (fun i => s.size - (intOf i).toNat)
      case atStart => exact ⟨1, by omega, rfl⟩
      case round =>
        obtain ⟨k, hk, rfl⟩ := hrel
        by_cases hlt : k < s.size
        · go_wp2_with (go_at_call 46; refine (isNameByte_any _ _).mono ?_; rintro e w' ⟨⟨b1, rfl⟩, rfl⟩; cases b1)
          · go_ret
            exact ⟨isBool_mk _, rfl⟩
          · go_round
            case rel => exact ⟨k + 1, by omega, by go_num⟩
            case measure => simp [intOf]; omega
        · go_wp2
          go_ret
          exact ⟨isBool_mk _, rfl⟩

/-! ### nameBracket, where the unit is good -/
def IsSet (X : ByteArray) (e : Ending) : Prop := ∃ b, e = .returned (.tuple #[.string X, .bool b])
theorem isSet_mk (X : ByteArray) (b : Bool) : IsSet X (.returned (.tuple #[.string X, .bool b])) := ⟨b, rfl⟩

theorem index_at (s : ByteArray) (w : World) (m : Int) (h : Lib.indexByte s.data.toList 93 = m) :
    Calls Try.prog 35 #[.string s, .int .u8 93] w fun e w' => e = .returned (.int .i64 m) ∧ w = w' :=
  (indexByte_any s w).mono fun _ _ g => ⟨by rw [g.1, h], g.2⟩

theorem app_size (x y : ByteArray) : (x ++ y).size = x.size + y.size := by
  rw [Lib.size_eq, ByteArray.data_append, Array.toList_append, List.length_append, ← Lib.size_eq, ← Lib.size_eq]
theorem ext_size (s : ByteArray) (a b : Nat) : (s.extract a b).size ≤ s.size := by
  rw [Lib.size_eq, Lib.size_eq, Lib.extract_data, List.length_take, List.length_drop]; omega

set_option maxHeartbeats 1000000 in
theorem nameBracket_any (text mask : ByteArray) (k c : Nat) (w : World) (hs : text.size ≤ 524288) (hm : mask.size = text.size) (hk : k < text.size) (h91 : text[k] = 91) (hc : 0 < c)
    (hi : Lib.indexByte (text.data.toList.drop (k + 1)) 93 = (c : Int)) (hlt : k + 1 + c < text.size) (h0 : mask[k + 1 + c]'(by omega) = 0) :
    Calls Try.prog 36 #[.string text, .string mask, .int .i64 (k : Int)] w fun e w' => IsSet ⟨((text.data.toList.drop (k + 1)).take c).toArray⟩ e ∧ w = w' := by
  have HI : Hid (Lib.indexByte (text.extract (k + 1) text.size).data.toList 93 = (c : Int)) := by
    show _ = _
    rw [← hi, Lib.extract_data]
    congr 1
    exact List.take_of_length_le (by rw [List.length_drop, Lib.size_eq]; exact Nat.le_refl _)
  have hX : text.extract (k + 1) (k + 1 + c) = ⟨((text.data.toList.drop (k + 1)).take c).toArray⟩ := by
    rw [Lib.extract_eq]
    congr 3
    omega
  have HX : Hid (text.extract (k + 1) (k + 1 + c) = ⟨((text.data.toList.drop (k + 1)).take c).toArray⟩) := hX
  have HSZ : Hid ((text.extract (k + 1) (k + 1 + c)).size ≤ text.size) := ext_size _ _ _
  have hlm : k + 1 + c < mask.size := by omega
  have t1 : ((text[k].toNat : Int) != 91) = false := by rw [h91]; rfl
  have t2 : (((mask[k + 1 + c]).toNat : Int) != 0) = false := by rw [h0]; rfl
  clear h91 h0 hi hX hm
  have i1 : (0 : Int) ≤ (k : Int) + 1 := by omega
  have i2 : (k : Int) + 1 ≤ (text.size : Int) := by omega
  have i3 : (0 : Int) ≤ (k : Int) + 1 + (c : Int) := by omega
  have i4 : (k : Int) + 1 + (c : Int) < (mask.size : Int) := by omega
  have i5 : (k : Int) + 1 + (c : Int) ≤ (text.size : Int) := by omega
  go_enter Try.func36, Try.ntmps36
  go_wp2_with (first | (go_at_call 35; refine (index_at _ _ _ HI.out).mono ?_; rintro e w' ⟨rfl, rfl⟩) | (go_at_call 42; refine (isName_any _ _ ?_).mono ?_; (rw [app_size]; have := HSZ.out; have e1 : (⟨#[95]⟩ : ByteArray).size = 1 := rfl; omega); rintro e w' ⟨⟨b1, rfl⟩, rfl⟩))
  go_ret2
  refine ⟨?_, rfl⟩
  show IsSet _ (.returned (.tuple #[.string (text.extract (k + 1) (k + 1 + c)), .bool b1]))
  rw [HX.out]
  exact isSet_mk _ _

/-! ### slices.Index, slices.Contains at bytes that the call owns -/
theorem own_cell {w : World} {base g cap : Nat} {acc : List UInt8} (h : w.ownsRow base 5 1 (.slice (some ⟨g, 0, none⟩) acc.length cap) acc.length (acc.map byteV)) (j : Nat) (hj : j < acc.length) :
    w.cell? ⟨g, j, none⟩ = some (.int .u8 (acc[j].toNat : Int)) := by
  have := h.cellAt j (by omega)
  rw [this]
  simp [List.getElem?_eq_getElem hj, byteV]

/-- The index among a list's bytes, from k on, is what it is in the whole: no earlier byte is c. -/
theorem index_miss {l : List UInt8} {c : UInt8} (h : c ∉ l) : Lib.indexByte l c = -1 := by
  induction l with
  | nil => rfl
  | cons b l ih =>
    simp only [List.mem_cons, not_or] at h
    have hb : ¬ b = c := fun e => h.1 e.symm
    unfold Lib.indexByte
    simp [hb, ih h.2]
theorem index_hit : ∀ (l : List UInt8) (c : UInt8) (n : Nat), c ∉ l.take n → l[n]? = some c → Lib.indexByte l c = (n : Int)
  | [], _, _, _, h => by simp at h
  | b :: l, c, 0, _, h => by
    simp at h; subst h
    unfold Lib.indexByte; simp
  | b :: l, c, n + 1, hn, h => by
    simp only [List.take_succ_cons, List.mem_cons, not_or] at hn
    have ih := index_hit l c n hn.2 (by simpa using h)
    have hb : ¬ b = c := fun e => hn.1 e.symm
    unfold Lib.indexByte
    have : ¬ (n : Int) = -1 := by omega
    simp [hb, ih, this]

set_option maxHeartbeats 1000000 in
theorem sliceIndex_some (g cap base : Nat) (acc : List UInt8) (c : UInt8) (w : World) (hl : acc.length ≤ 16777216) (hown : w.ownsRow base 5 1 (.slice (some ⟨g, 0, none⟩) acc.length cap) acc.length (acc.map byteV)) :
    Calls Try.prog 43 #[.slice (some ⟨g, 0, none⟩) acc.length cap, .int .u8 (c.toNat : Int)] w fun e w' => e = .returned (.int .i64 (Lib.indexByte acc c)) ∧ w = w' := by
  have HC := own_cell hown
  have HCC : Hid (∀ (j : Nat) (hj : j < acc.length), w.cell? ⟨g, j, none⟩ = some (.int .u8 (acc[j].toNat : Int))) := HC
  clear hown HC
  go_enter Try.func43, Try.ntmps43
  go_wp2
  go_loop [8] (fun i => ∃ k : Nat, k ≤ acc.length ∧ i = .int .i64 k ∧ c ∉ acc.take k) (fun i => acc.length - (intOf i).toNat)
  case atStart => exact ⟨0, Nat.zero_le _, rfl, by simp⟩
  case round =>
    obtain ⟨k, hk, rfl, hr⟩ := hrel
    have HR : Hid (c ∉ acc.take k) := hr
    clear hr
    by_cases hlt : k < acc.length
    · have hcell := HCC.out k hlt
      by_cases he : c = acc[k]
      · have t : ((c.toNat : Int) == (acc[k].toNat : Int)) = true := by rw [he]; simp
        have HE : Hid (Lib.indexByte acc c = (k : Int)) := index_hit acc c k HR.out (by rw [List.getElem?_eq_getElem hlt, he])
        clear he
        go_wp2
        go_ret
        exact ⟨ret_int HE.out.symm, rfl⟩
      · have t : ((c.toNat : Int) == (acc[k].toNat : Int)) = false := by
          rw [beq_eq_false_iff_ne]; intro e; exact he (UInt8.toNat_inj.1 (by omega))
        have HN : Hid (c ∉ acc.take (k + 1)) := by
          show ¬ _
          rw [List.take_succ_eq_append_getElem hlt, List.mem_append]
          simp only [List.mem_singleton, not_or]
          exact ⟨HR.out, he⟩
        clear he
        go_wp2
        go_round
        case rel => exact ⟨k + 1, by omega, by go_num, HN.out⟩
        case measure => simp [intOf]; omega
    · have HE : Hid (Lib.indexByte acc c = -1) := index_miss (by have := HR.out; rwa [List.take_of_length_le (by omega)] at this)
      go_wp2
      go_ret
      exact ⟨ret_int HE.out.symm, rfl⟩

theorem sliceIndex_none (c : UInt8) (w : World) :
    Calls Try.prog 43 #[.slice none 0 0, .int .u8 (c.toNat : Int)] w fun e w' => e = .returned (.int .i64 (-1)) ∧ w = w' := by
  go_enter Try.func43, Try.ntmps43
  go_wp2
  refine wp_loop_rounds 1 ?_
  rw [rounds_succ]
  go_wp2
  go_ret
  exact ⟨rfl, rfl⟩

theorem first_mem : ∀ (acc : List UInt8) (c : UInt8), c ∈ acc → ∃ n : Nat, acc[n]? = some c ∧ c ∉ acc.take n
  | [], _, h => by simp at h
  | x :: acc, c, h => by
    by_cases hx : c = x
    · exact ⟨0, by simp [hx], by simp⟩
    · obtain ⟨n, h1, h2⟩ := first_mem acc c (by simpa [hx] using h)
      exact ⟨n + 1, by simpa using h1, by simp [hx, h2]⟩

/-- slices.Contains at the bytes that v owns. -/
theorem contains_own (v : Value) (base : Nat) (acc : List UInt8) (c : UInt8) (w : World) (hl : acc.length ≤ 16777216) (hown : w.ownsRow base 5 1 v acc.length (acc.map byteV)) (b : Bool) (hb : acc.contains c = b) :
    Calls Try.prog 38 #[v, .int .u8 (c.toNat : Int)] w fun e w' => e = .returned (.bool b) ∧ w = w' := by
  rcases hown.2 with ⟨rfl, h0⟩ | ⟨g, cap, cur, rfl, _⟩
  · have hnil : acc = [] := List.eq_nil_of_length_eq_zero h0
    have HB : Hid (b = false) := by show _ = _; rw [← hb, hnil]; rfl
    clear hb hown h0 hnil
    go_enter Try.func38, Try.ntmps38
    go_wp2_with (go_at_call 43; refine (sliceIndex_none _ _).mono ?_; rintro e w' ⟨rfl, rfl⟩)
    go_ret
    exact ⟨ret_bool HB.out.symm, rfl⟩
  · have HB : Hid (decide (0 ≤ Lib.indexByte acc c) = b) := by
      show _ = _
      rw [← hb]
      by_cases hm : c ∈ acc
      · obtain ⟨n, hn, h1⟩ := first_mem acc c hm
        rw [index_hit acc c n h1 hn]
        have : acc.contains c = true := by simpa using hm
        rw [this]; simp
      · rw [index_miss hm]
        have : acc.contains c = false := by simpa using hm
        rw [this]; rfl
    clear hb
    go_enter Try.func38, Try.ntmps38
    go_wp2_with (go_at_call 43; refine (sliceIndex_some g cap base acc c _ hl hown).mono ?_; rintro e w' ⟨rfl, rfl⟩)
    go_ret
    exact ⟨ret_bool HB.out, rfl⟩
end Go.Proofs.Qxb6601350a
