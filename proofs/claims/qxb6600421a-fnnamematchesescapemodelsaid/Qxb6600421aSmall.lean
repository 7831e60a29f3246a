/-
  SEAT b6600421a: THE SMALL WALKS: kept, inName, the bounds, zzNoSlashOrNul, zzHexValue, zzHexDigit.
-/
import Derived.Test.Qxb6600421aLib
import Derived.Test.Qxb6600421aLaws
namespace Go.Proofs.Qxb6600421a
open Go.RowKit

theorem ret_bool {a b : Bool} (h : a = b) : Ending.returned (.bool a) = .returned (.bool b) := by rw [h]
theorem ret_int {k : IntKind} {a b : Int} (h : a = b) : Ending.returned (.int k a) = .returned (.int k b) := by rw [h]

set_option maxHeartbeats 1000000 in
theorem kept_any (n : Int) (w : World) :
    Calls Try.prog 27 #[.int .u8 n] w fun e w' => e = .returned (.bool (keptI n)) ∧ w' = w := by
  go_enter Try.func27, Try.ntmps27
  go_wp2
  all_goals
    go_ret
    exact ⟨ret_bool (by unfold keptI; rw [Bool.eq_iff_iff]; simp; try omega), rfl⟩

theorem inName_any (n : Int) (w : World) :
    Calls Try.prog 34 #[.int .u8 n] w fun e w' => e = .returned (.bool (n != 47 && n != 0)) ∧ w' = w := by
  go_enter Try.func34, Try.ntmps34
  go_wp2
  · have h : n = 47 := by assumption
    go_ret
    exact ⟨ret_bool (by rw [h]; rfl), rfl⟩
  · go_ret
    exact ⟨rfl, rfl⟩

/-- The value of an upper-case digit, on a number. -/
def hexI (n : Int) : Int := if 48 ≤ n ∧ n ≤ 57 then n - 48 else if 65 ≤ n ∧ n ≤ 70 then n - 55 else -1

theorem hexI_byte (c : UInt8) : hexI (c.toNat : Int) = hexV c := by
  unfold hexI hexV; split <;> split <;> (try split) <;> (try split) <;> omega

theorem hexValue_any (n : Int) (w : World) :
    Calls Try.prog 28 #[.int .u8 n] w fun e w' => e = .returned (.int .i64 (hexI n)) ∧ w' = w := by
  go_enter Try.func28, Try.ntmps28
  go_wp2
  all_goals
    go_ret
    exact ⟨ret_int (by unfold hexI; split <;> (try split) <;> omega), rfl⟩

/-- The upper-case digit, on a number below sixteen. -/
def digI (n : Int) : Int := if n < 10 then 48 + n else 55 + n

theorem digI_hexD (d : Nat) (h : d < 16) : digI (d : Int) = ((hexD d).toNat : Int) := by
  have : ∀ n : Fin 16, digI (n.val : Int) = ((hexD n.val).toNat : Int) := by decide +kernel
  exact this ⟨d, h⟩

theorem hexDigit_any (n : Int) (w : World) (h0 : 0 ≤ n) (h1 : n < 16) :
    Calls Try.prog 30 #[.int .u8 n] w fun e w' => e = .returned (.int .u8 (digI n)) ∧ w' = w := by
  go_enter Try.func30, Try.ntmps30
  go_wp2
  all_goals
    go_ret
    exact ⟨ret_int (by unfold digI; split <;> omega), rfl⟩

theorem drop_cons (s : ByteArray) (k : Nat) (h : k < s.size) : s.data.toList.drop k = s[k] :: s.data.toList.drop (k + 1) := by
  rw [List.drop_eq_getElem_cons (by simpa using h)]; rfl
theorem drop_end (s : ByteArray) (k : Nat) (h : ¬ k < s.size) : s.data.toList.drop k = [] :=
  List.drop_eq_nil_of_le (by simpa using Nat.le_of_not_lt h)
theorem u8_eq_of {c : UInt8} {n : Nat} (h : (c.toNat : Int) = n) (hn : n < 256) : c = n.toUInt8 := by
  apply UInt8.toNat_inj.1
  simp only [Nat.toUInt8, UInt8.toNat_ofNat']
  omega

theorem bytes11 (s : ByteArray) (w : World) (hs : s.size ≤ maxLen) :
    Calls Try.prog 11 #[.string s] w fun e w' => e = .returned (.bool (decide (s.size ≤ 1048576))) ∧ w' = w := by
  unfold maxLen at hs
  go_enter Try.func11, Try.ntmps11
  go_wp2
  all_goals
    go_ret
    exact ⟨ret_bool (by rw [Bool.eq_iff_iff]; simp; omega), rfl⟩

theorem bytes15 (s : ByteArray) (w : World) (hs : s.size ≤ maxLen) :
    Calls Try.prog 15 #[.string s] w fun e w' => e = .returned (.bool (decide (s.size ≤ 1048576))) ∧ w' = w := by
  unfold maxLen at hs
  go_enter Try.func15, Try.ntmps15
  go_wp2
  all_goals
    go_ret
    exact ⟨ret_bool (by rw [Bool.eq_iff_iff]; simp; omega), rfl⟩

theorem bytes18 (s : ByteArray) (w : World) (hs : s.size ≤ maxLen) :
    Calls Try.prog 18 #[.string s] w fun e w' => e = .returned (.bool (decide (s.size ≤ 1048576))) ∧ w' = w := by
  unfold maxLen at hs
  go_enter Try.func18, Try.ntmps18
  go_wp2
  all_goals
    go_ret
    exact ⟨ret_bool (by rw [Bool.eq_iff_iff]; simp; omega), rfl⟩

theorem bytes21 (s : ByteArray) (w : World) (hs : s.size ≤ maxLen) :
    Calls Try.prog 21 #[.string s] w fun e w' => e = .returned (.bool (decide (s.size ≤ 1048576))) ∧ w' = w := by
  unfold maxLen at hs
  go_enter Try.func21, Try.ntmps21
  go_wp2
  all_goals
    go_ret
    exact ⟨ret_bool (by rw [Bool.eq_iff_iff]; simp; omega), rfl⟩

theorem bytes23 (s : ByteArray) (w : World) (hs : s.size ≤ maxLen) :
    Calls Try.prog 23 #[.string s] w fun e w' => e = .returned (.bool (decide (s.size ≤ 1048576))) ∧ w' = w := by
  unfold maxLen at hs
  go_enter Try.func23, Try.ntmps23
  go_wp2
  all_goals
    go_ret
    exact ⟨ret_bool (by rw [Bool.eq_iff_iff]; simp; omega), rfl⟩

theorem noSN_hit {c : UInt8} {r : List UInt8} (h : (c.toNat : Int) = 47 ∨ (c.toNat : Int) = 0) : noSN (c :: r) = false := by
  have e : (c != 47 && c != 0) = false := by
    rcases h with h | h
    · have := u8_eq_of (n := 47) h (by decide); subst this; rfl
    · have := u8_eq_of (n := 0) h (by decide); subst this; rfl
  unfold noSN; rw [List.all_cons, e]; rfl
theorem noSN_pass {c : UInt8} {r : List UInt8} (h : ¬ (c.toNat : Int) = 47) (h' : ¬ (c.toNat : Int) = 0) : noSN (c :: r) = noSN r := by
  have e : (c != 47 && c != 0) = true := by
    simp only [Bool.and_eq_true, bne_iff_ne]
    exact ⟨fun e => h (by rw [e]; rfl), fun e => h' (by rw [e]; rfl)⟩
  unfold noSN; rw [List.all_cons, e]; rfl

theorem noSN_any (s : ByteArray) (w : World) (hs : s.size ≤ maxLen) :
    Calls Try.prog 22 #[.string s] w fun e w' => e = .returned (.bool (noSN s.data.toList)) ∧ w' = w := by
  unfold maxLen at hs
  go_enter Try.func22, Try.ntmps22
  go_wp2
  go_loop [3] (fun i => ∃ k : Nat, k ≤ s.size ∧ i = .int .i64 k ∧ noSN (s.data.toList.drop k) = noSN s.data.toList) (fun i => s.size - (intOf i).toNat)
  case atStart => exact ⟨0, Nat.zero_le _, rfl, rfl⟩
  case round =>
    obtain ⟨k, hk, rfl, hr⟩ := hrel
    have HR : Hid (noSN (s.data.toList.drop k) = noSN s.data.toList) := hr
    clear hr
    go_wp2
    · have hlt : k < s.size := by assumption
      have h : (s[k].toNat : Int) = 47 := by assumption
      go_ret
      exact ⟨ret_bool (by rw [← HR.out, drop_cons s k hlt, noSN_hit (.inl h)]), rfl⟩
    · have hlt : k < s.size := by assumption
      have h : ((s[k].toNat : Int) == 47) = true ∨ ((s[k].toNat : Int) == 0) = true := by assumption
      go_ret
      exact ⟨ret_bool (by rw [← HR.out, drop_cons s k hlt, noSN_hit (by simpa using h)]), rfl⟩
    · have hlt : k < s.size := by assumption
      have h : ((s[k].toNat : Int) == 47) = false ∧ ((s[k].toNat : Int) == 0) = false := by assumption
      go_round
      case rel => exact ⟨k + 1, by omega, by go_num, by rw [← HR.out, drop_cons s k hlt, noSN_pass (beq_eq_false_iff_ne.1 h.1) (beq_eq_false_iff_ne.1 h.2)]⟩
      case measure => simp [intOf]; omega
    · have hlt : ¬ k < s.size := by assumption
      go_ret
      exact ⟨ret_bool (by rw [← HR.out, drop_end s k hlt]; rfl), rfl⟩
end Go.Proofs.Qxb6600421a
