/-
  SEAT b6600874a: THE LIBRARY's FUNCTIONS ON THE ROADS (the shelf's templates at this program's numbers): IndexByte, Index at one byte, TrimPrefix; and Cut at the point.
-/
import Derived.Test.Qxb6600874aProg
import Derived.Test.Qxb6600874aPlain
import Derived.WalkKit
import Derived.WalkLawsBesides
import Derived.WalkSpells
import Derived.Deep.QuietTactic
import Derived.BigQuiet
import Derived.Lib.Strings
import Derived.Lib.Slices
import Derived.Lib.Walk
import Derived.Lib.Bytealg
namespace Go.Proofs.Qxb6600874a
open Go.RowKit

set_option maxHeartbeats 1000000 in
set_option maxRecDepth 100000 in
theorem stringslite_IndexByte (s : ByteArray) (c : Int) (w : World) :
    Calls Try.prog 24 #[.string s, .int .u8 c] w fun e w' => e = .returned (.int .i64 (Lib.indexByte s.data.toList c.toNat.toUInt8)) ∧ w' = w := by
  go_enter Try.func24, Try.ntmps24
  go_wp2
  rw [run_callFunc_extern Try.func28 (by kernel_rfl) (by kernel_rfl) (by kernel_rfl) (e := Extern.BytealgIndexByte.indexByte) (by kernel_rfl), Lib.run_indexByteString]
  simp only [Result.andThen]
  rw [Oper.upon_value]
  go_wp2
  go_ret
  exact ⟨rfl, rfl⟩

set_option maxHeartbeats 2000000 in
set_option maxRecDepth 100000 in
theorem stringslite_Index_one (s : ByteArray) (c : UInt8) (w : World) :
    Calls Try.prog 22 #[.string s, .string ⟨#[c]⟩] w fun e w' => e = .returned (.int .i64 (Lib.indexByte s.data.toList c)) ∧ w = w' := by
  go_enter Try.func22, Try.ntmps22
  go_wp2_with (go_at_call 24; refine (stringslite_IndexByte _ _ _).mono ?_; rintro e w' ⟨rfl, rfl⟩)
  · have h : ([c] == s.toList) = true := by assumption
    go_ret
    refine ⟨?_, rfl⟩
    have e : s.data.toList = [c] := by rw [← Lib.toList_data]; exact (beq_iff_eq.1 h).symm
    rw [e]
    simp [Lib.indexByte]
  · go_ret
    exact ⟨rfl, rfl⟩

set_option maxHeartbeats 1000000 in
theorem strings_TrimPrefix (s p : ByteArray) (w : World) :
    Calls Try.prog 19 #[.string s, .string p] w fun e w' => e = .returned (.string ⟨(Lib.trimPrefix s.data.toList p.data.toList).toArray⟩) ∧ w' = w := by
  go_enter Try.func19, Try.ntmps19
  go_wp2
  · have h1 : p.size ≤ s.size := by assumption
    have h2 : ((s.extract 0 p.size).toList == p.toList) = true := by assumption
    go_ret
    refine ⟨?_, rfl⟩
    rw [Lib.trimPrefix_hit s p h1 h2]
    rfl
  · have h2 : ((s.extract 0 p.size).toList == p.toList) = false := by assumption
    go_ret
    refine ⟨?_, rfl⟩
    rw [Lib.trimPrefix_miss s p (by rw [h2]; simp)]
    rfl
  · have h1 : ¬ p.size ≤ s.size := by assumption
    go_ret
    refine ⟨?_, rfl⟩
    rw [Lib.trimPrefix_miss s p (by simp [h1])]
    rfl

theorem trim_eq (l : List UInt8) : Lib.trimPrefix l [45] = trimL l := by
  unfold Lib.trimPrefix Lib.hasPrefix
  cases l with
  | nil => rfl
  | cons b l =>
    rw [trimL]
    by_cases h : b = 45
    · subst h; rfl
    · have h2 : ¬ (45 : UInt8) = b := fun e => h e.symm
      simp [List.isPrefixOf, h, h2]

theorem ret_string {a b : ByteArray} (h : a = b) : Ending.returned (.string a) = .returned (.string b) := by rw [h]
theorem ret_bool {a b : Bool} (h : a = b) : Ending.returned (.bool a) = .returned (.bool b) := by rw [h]

theorem trim_any (s : ByteArray) (w : World) :
    Calls Try.prog 19 #[.string s, .string ⟨#[45]⟩] w fun e w' => e = .returned (.string ⟨(trimL s.data.toList).toArray⟩) ∧ w = w' := by
  refine (strings_TrimPrefix s ⟨#[45]⟩ w).mono ?_
  rintro e w' ⟨rfl, rfl⟩
  exact ⟨ret_string (by rw [← trim_eq]), rfl⟩

/-! ### Cut at the point -/
theorem cut_at : ∀ (l : List UInt8), (Lib.indexByte l 46 = -1 ∧ cutL l = (l, [], false)) ∨ ∃ i : Nat, Lib.indexByte l 46 = i ∧ i + 1 ≤ l.length ∧ cutL l = (l.take i, l.drop (i + 1), true)
  | [] => .inl ⟨rfl, rfl⟩
  | b :: l => by
    by_cases hb : b = 46
    · subst hb
      right
      refine ⟨0, ?_, by simp, ?_⟩
      · unfold Lib.indexByte; simp
      · rw [cutL]; simp
    · rcases cut_at l with ⟨h1, h2⟩ | ⟨i, h1, h2, h3⟩
      · left
        constructor
        · unfold Lib.indexByte; simp [hb, h1]
        · rw [cutL, h2]; simp [hb]
      · right
        refine ⟨i + 1, ?_, by simp; omega, ?_⟩
        · unfold Lib.indexByte
          have : ¬ (i : Int) = -1 := by omega
          simp [hb, h1, this]
        · rw [cutL, h3]; simp [hb]

theorem ret3 {a b a' b' : ByteArray} {c c' : Bool} (h1 : a = a') (h2 : b = b') (h3 : c = c') : Ending.returned (.tuple #[.string a, .string b, .bool c]) = .returned (.tuple #[.string a', .string b', .bool c']) := by rw [h1, h2, h3]
theorem empty_back : (⟨#[]⟩ : ByteArray) = ⟨([] : List UInt8).toArray⟩ := rfl

theorem extract_rest (s : ByteArray) (a : Nat) : s.extract a s.size = ⟨(s.data.toList.drop a).toArray⟩ := by
  rw [Lib.extract_eq]
  congr 2
  exact List.take_of_length_le (by rw [List.length_drop, Lib.size_eq]; exact Nat.le_refl _)
theorem bel_drewN {B : Nat} {a w : World} (h : Below B a w) : ∀ n, Below B a (w.drewN n) := fun _ => ⟨h.os, h.tape, h.output, h.size, h.block⟩

set_option maxHeartbeats 1000000 in
theorem stringslite_Cut (s : ByteArray) (w : World) (hs : s.size ≤ 16777216) :
    Calls Try.prog 20 #[.string s, .string ⟨#[46]⟩] w fun e w' => e = .returned (.tuple #[.string ⟨(cutL s.data.toList).1.toArray⟩, .string ⟨(cutL s.data.toList).2.1.toArray⟩, .bool (cutL s.data.toList).2.2]) ∧ Below w.heap.size w w' := by
  have hlen : s.data.toList.length = s.size := (Lib.size_eq s).symm
  rcases cut_at s.data.toList with ⟨h1, h2⟩ | ⟨i, h1, h2, h3⟩
  · rw [h2]
    go_enter Try.func20, Try.ntmps20
    go_wp2_with (go_at_call 22; refine (stringslite_Index_one _ _ _).mono ?_; rintro e w' ⟨rfl, rfl⟩)
    go_ret3
    exact ⟨ret3 (Lib.mk_data s).symm rfl rfl, Below.refl _ _⟩
  · have HC : Hid (cutL s.data.toList = (s.data.toList.take i, s.data.toList.drop (i + 1), true)) := h3
    have hi : i + 1 ≤ s.size := by omega
    clear h2 h3 hlen
    go_enter Try.func20, Try.ntmps20
    go_wp2_with (go_at_call 22; refine (stringslite_Index_one _ _ _).mono ?_; rintro e w' ⟨rfl, rfl⟩)
    have i1 : (0 : Int) ≤ (i : Int) := by omega
    have i2 : (i : Int) ≤ (s.size : Int) := by omega
    have i3 : (0 : Int) ≤ (i : Int) + 1 := by omega
    have i4 : (i : Int) + 1 ≤ (s.size : Int) := by omega
    go_quiet (fail)
    go_wp2
    go_ret3
    exact ⟨ret3 (by rw [HC.out, Lib.extract_eq]; simp) (by rw [HC.out]; exact extract_rest s (i + 1)) (by rw [HC.out]), bel_drewN (Below.refl _ _) _⟩

theorem cut_any (s : ByteArray) (w : World) (hs : s.size ≤ 16777216) :
    Calls Try.prog 18 #[.string s, .string ⟨#[46]⟩] w fun e w' => e = .returned (.tuple #[.string ⟨(cutL s.data.toList).1.toArray⟩, .string ⟨(cutL s.data.toList).2.1.toArray⟩, .bool (cutL s.data.toList).2.2]) ∧ Below w.heap.size w w' := by
  go_enter Try.func18, Try.ntmps18
  go_wp2_with (go_at_call 20; refine (stringslite_Cut _ _ hs).mono ?_; rintro e w' ⟨rfl, hb⟩)
  go_ret3
  exact ⟨rfl, hb⟩

end Go.Proofs.Qxb6600874a
