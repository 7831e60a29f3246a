/-
  SEAT b6601350a: THE SMALL WALKS: the other case (two texts), IndexByte, slices.Index and Contains at bytes, isName, the guard.
-/
import Derived.Test.Qxb6601350aProg
import Derived.Test.Qxb6601350aPlain
import Derived.WalkKit
import Derived.WalkLawsBesides
import Derived.WalkSpells
import Derived.OneCell
import Derived.Deep.QuietTactic
import Derived.BigQuiet
import Derived.Deep.RegionLaw
import Derived.Deep.AppendLies
import Derived.Laws.IdiomStrings
import Derived.Lib.Strings
import Derived.Lib.Slices
import Derived.Lib.Walk
import Derived.Lib.Bytealg
namespace Go.Proofs.Qxb6601350a
open Go.RowKit

def byteV (c : UInt8) : Value := .int .u8 (c.toNat : Int)

theorem ret_bool {a b : Bool} (h : a = b) : Ending.returned (.bool a) = .returned (.bool b) := by rw [h]
theorem ret_int {k : IntKind} {a b : Int} (h : a = b) : Ending.returned (.int k a) = .returned (.int k b) := by rw [h]
theorem ret_string {a b : ByteArray} (h : a = b) : Ending.returned (.string a) = .returned (.string b) := by rw [h]
theorem bel_drewN {B : Nat} {a w : World} (h : Below B a w) : ∀ n, Below B a (w.drewN n) := fun _ => ⟨h.os, h.tape, h.output, h.size, h.block⟩
theorem size_of (l : List UInt8) : (⟨l.toArray⟩ : ByteArray).size = l.length := by show l.toArray.size = _; simp

theorem drop_cons (s : ByteArray) (k : Nat) (h : k < s.size) : s.data.toList.drop k = s[k] :: s.data.toList.drop (k + 1) := by
  rw [List.drop_eq_getElem_cons (by simpa using h)]; rfl
theorem drop_end (s : ByteArray) (k : Nat) (h : ¬ k < s.size) : s.data.toList.drop k = [] :=
  List.drop_eq_nil_of_le (by simpa using Nat.le_of_not_lt h)
theorem getD_at (s : ByteArray) (k : Nat) (h : k < s.size) : s.data.toList.getD k 0 = s[k] := by
  have hl : k < s.data.toList.length := by simpa using h
  simp only [List.getD, List.getElem?_eq_getElem hl, Option.getD_some]; rfl
theorem u8_eq_of {c : UInt8} {n : Nat} (h : (c.toNat : Int) = n) (hn : n < 256) : c = n.toUInt8 := by
  apply UInt8.toNat_inj.1
  simp only [Nat.toUInt8, UInt8.toNat_ofNat']
  omega

theorem otherCase_any (n : Int) (w : World) (h0 : 0 ≤ n) (h1 : n < 256) :
    Calls Try.prog 39 #[.int .u8 n] w fun e w' => e = .returned (.int .u8 (otherI n)) ∧ w = w' := by
  go_enter Try.func39, Try.ntmps39
  go_wp2
  all_goals
    go_ret
    exact ⟨ret_int (by unfold otherI; split <;> (try split) <;> omega), rfl⟩
theorem otherCase_at (c : UInt8) (w : World) :
    Calls Try.prog 39 #[.int .u8 (c.toNat : Int)] w fun e w' => e = .returned (.int .u8 ((other c).toNat : Int)) ∧ w = w' := by
  have := c.toNat_lt
  refine (otherCase_any _ w (by omega) (by omega)).mono ?_
  rintro e w' ⟨rfl, rfl⟩
  exact ⟨ret_int (otherI_byte c), rfl⟩

theorem or32 (n : Nat) (h : n < 256) : (97 ≤ bits BinOp.or IntKind.u8 (n : Int) 32 ∧ bits BinOp.or IntKind.u8 (n : Int) 32 ≤ 122 ∧ bits BinOp.xor IntKind.u8 (n : Int) 32 = otherI n) ∨ ((bits BinOp.or IntKind.u8 (n : Int) 32 < 97 ∨ 122 < bits BinOp.or IntKind.u8 (n : Int) 32) ∧ otherI n = n) := by
  have key : ∀ k : Fin 256, (97 ≤ bits BinOp.or IntKind.u8 (k.val : Int) 32 ∧ bits BinOp.or IntKind.u8 (k.val : Int) 32 ≤ 122 ∧ bits BinOp.xor IntKind.u8 (k.val : Int) 32 = otherI k.val) ∨ ((bits BinOp.or IntKind.u8 (k.val : Int) 32 < 97 ∨ 122 < bits BinOp.or IntKind.u8 (k.val : Int) 32) ∧ otherI k.val = k.val) := by decide +kernel
  exact key ⟨n, h⟩

theorem otherLetter_at (c : UInt8) (w : World) :
    Calls Try.prog 26 #[.int .u8 (c.toNat : Int)] w fun e w' => e = .returned (.int .u8 ((other c).toNat : Int)) ∧ w = w' := by
  have hc := c.toNat_lt
  have ho := otherI_byte c
  rcases or32 c.toNat hc with ⟨h1, h2, h3⟩ | ⟨h1 | h1, h3⟩
  · have H3 : Hid (bits BinOp.xor IntKind.u8 (c.toNat : Int) 32 = ((other c).toNat : Int)) := h3.trans ho
    clear h3 ho
    go_enter Try.func26, Try.ntmps26
    go_wp2
    go_ret
    exact ⟨ret_int H3.out, rfl⟩
  · have H3 : Hid ((c.toNat : Int) = ((other c).toNat : Int)) := h3.symm.trans ho
    clear h3 ho
    go_enter Try.func26, Try.ntmps26
    go_wp2
    go_ret
    exact ⟨ret_int H3.out, rfl⟩
  · have H3 : Hid ((c.toNat : Int) = ((other c).toNat : Int)) := h3.symm.trans ho
    clear h3 ho
    go_enter Try.func26, Try.ntmps26
    go_wp2
    go_ret
    exact ⟨ret_int H3.out, rfl⟩

set_option maxHeartbeats 1000000 in
set_option maxRecDepth 100000 in
theorem stringslite_IndexByte (s : ByteArray) (c : Int) (w : World) :
    Calls Try.prog 41 #[.string s, .int .u8 c] w fun e w' => e = .returned (.int .i64 (Lib.indexByte s.data.toList c.toNat.toUInt8)) ∧ w' = w := by
  go_enter Try.func41, Try.ntmps41
  go_wp2
  rw [run_callFunc_extern Try.func44 (by kernel_rfl) (by kernel_rfl) (by kernel_rfl) (e := Extern.BytealgIndexByte.indexByte) (by kernel_rfl), Lib.run_indexByteString]
  simp only [Result.andThen]
  rw [Oper.upon_value]
  go_wp2
  go_ret
  exact ⟨rfl, rfl⟩
theorem indexByte_any (s : ByteArray) (w : World) :
    Calls Try.prog 35 #[.string s, .int .u8 93] w fun e w' => e = .returned (.int .i64 (Lib.indexByte s.data.toList 93)) ∧ w = w' := by
  go_enter Try.func35, Try.ntmps35
  go_wp2_with (go_at_call 41; refine (stringslite_IndexByte _ _ _).mono ?_; rintro e w' ⟨rfl, rfl⟩)
  go_ret
  exact ⟨rfl, rfl⟩

/-! ### isName: it answers -/
def IsBool (e : Ending) : Prop := ∃ b, e = .returned (.bool b)
theorem isBool_mk (b : Bool) : IsBool (.returned (.bool b)) := ⟨b, rfl⟩
theorem isNameStart_any (n : Int) (w : World) : Calls Try.prog 45 #[.int .u8 n] w fun e w' => IsBool e ∧ w = w' := by
  go_enter Try.func45, Try.ntmps45
  go_wp2
  all_goals
    go_ret
    exact ⟨isBool_mk _, rfl⟩
theorem isDigit_any (n : Int) (w : World) : Calls Try.prog 47 #[.int .u8 n] w fun e w' => IsBool e ∧ w = w' := by
  go_enter Try.func47, Try.ntmps47
  go_wp2
  all_goals
    go_ret
    exact ⟨isBool_mk _, rfl⟩
theorem isNameByte_any (n : Int) (w : World) : Calls Try.prog 46 #[.int .u8 n] w fun e w' => IsBool e ∧ w = w' := by
  go_enter Try.func46, Try.ntmps46
  go_wp2_with (first | (go_at_call 45; refine (isNameStart_any _ _).mono ?_; rintro e w' ⟨⟨b1, rfl⟩, rfl⟩; cases b1) | (go_at_call 47; refine (isDigit_any _ _).mono ?_; rintro e w' ⟨⟨b2, rfl⟩, rfl⟩))
  all_goals
    go_wp2_with (first | (go_at_call 47; refine (isDigit_any _ _).mono ?_; rintro e w' ⟨⟨b2, rfl⟩, rfl⟩))
  all_goals
    go_ret
    exact ⟨isBool_mk _, rfl⟩

end Go.Proofs.Qxb6601350a
