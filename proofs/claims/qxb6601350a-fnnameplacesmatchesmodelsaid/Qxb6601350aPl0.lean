/-
  SEAT b6601350a: WHAT THE WALKS OF namePlaces LEAN ON.
-/
import Derived.Test.Qxb6601350aAdd
import Derived.Test.Qxb6601350aFit
namespace Go.Proofs.Qxb6601350a
open Go.RowKit

theorem Try.info53 : (Try.prog.info? 53).map (fun i => (i.zero, i.size, i.bytes)) = some (some (.agg #[.int .i64 0, .int .i64 0, .string ⟨#[]⟩]), 3, 32) := by kernel_rfl

/-- The cells of a place. -/
def placeC (p : Nat × List UInt8) : List Value := [.int .i64 (p.1 : Int), .int .i64 0, .string ⟨p.2.toArray⟩]
def placesC (offs : List Nat) (sets : List (List UInt8)) : List Value := (offs.zip sets).flatMap placeC
theorem placesC_snoc {offs : List Nat} {sets : List (List UInt8)} (h : sets.length = offs.length) (a : Nat) (s : List UInt8) : placesC offs sets ++ [.int .i64 (a : Int), .int .i64 0, .string ⟨s.toArray⟩] = placesC (offs ++ [a]) (sets ++ [s]) := by
  unfold placesC
  rw [List.zip_append h.symm, List.flatMap_append]
  rfl

/-- What a row's value says of its head, length and capacity. -/
def Places (text mask : ByteArray) (fold : Bool) (base r : Nat) (vh vp : Value) (w : World) : Prop :=
  w.ownsRow base 5 1 vh (stAt text.data.toList mask.data.toList fold r).head.length ((stAt text.data.toList mask.data.toList fold r).head.map byteV) ∧
  w.ownsRow base 53 3 vp (stAt text.data.toList mask.data.toList fold r).offs.length (placesC (stAt text.data.toList mask.data.toList fold r).offs (stAt text.data.toList mask.data.toList fold r).sets)

theorem chars_plain {text mask : ByteArray} {k : Nat} (hk : k < text.size) (hm : k < mask.size) (h0 : ¬ (mask[k].toNat : Int) = 0) : isBr mask.data.toList k = false ∧ charsOf text.data.toList mask.data.toList k = [text[k]] ∧ nextOf text.data.toList mask.data.toList k = k + 1 := by
  have hb : isBr mask.data.toList k = false := by
    rw [isBr_at mask k hm, beq_eq_false_iff_ne]; intro e; exact h0 (by rw [e]; rfl)
  refine ⟨hb, ?_, ?_⟩
  · unfold charsOf; rw [hb, getD_at text k hk]; rfl
  · unfold nextOf; rw [hb]; rfl
theorem ext_one (text : ByteArray) (k : Nat) (hk : k < text.size) : (text.extract k (k + 1)).data.toList = [text[k]] := by
  rw [Lib.extract_data, drop_cons text k hk]
  have : k + 1 - k = 1 := by omega
  rw [this]; rfl
theorem chars_br {text mask : ByteArray} {k : Nat} (hm : k < mask.size) (h0 : (mask[k].toNat : Int) = 0) : isBr mask.data.toList k = true ∧ charsOf text.data.toList mask.data.toList k = (text.data.toList.drop (k + 1)).take (close text.data.toList k) ∧ nextOf text.data.toList mask.data.toList k = k + 1 + close text.data.toList k + 1 := by
  have hb : isBr mask.data.toList k = true := by
    rw [isBr_at mask k hm, beq_iff_eq]; exact u8_eq_of (n := 0) h0 (by decide)
  refine ⟨hb, ?_, ?_⟩
  · unfold charsOf; rw [hb]; rfl
  · unfold nextOf; rw [hb]; rfl
theorem step_place {T M : List UInt8} {fold : Bool} {s : St} (h : (isBr M s.at_ || decide (1 < (setL fold (charsOf T M s.at_)).length)) = true) : step T M fold s = ⟨nextOf T M s.at_, s.head ++ [(charsOf T M s.at_).headD 0], s.offs ++ [s.head.length], s.sets ++ [setL fold (charsOf T M s.at_)]⟩ := by
  unfold step; rw [if_pos h]
theorem step_none {T M : List UInt8} {fold : Bool} {s : St} (h : (isBr M s.at_ || decide (1 < (setL fold (charsOf T M s.at_)).length)) = false) : step T M fold s = ⟨nextOf T M s.at_, s.head ++ [(charsOf T M s.at_).headD 0], s.offs, s.sets⟩ := by
  unfold step; rw [if_neg (by rw [h]; exact Bool.false_ne_true)]

theorem each_start {w w1 : World} {B : Nat} (hB : w.heap.size = B) (hb : Below (B + 1) (w.alloc (.cells #[.slice none 0 0] 32)) w1) : Each B (B + 2) [] w1 := by
  refine ⟨.slice none 0 0, ?_, World.ownsRow_nil _ _ _ _⟩
  rw [hb.block B (by omega), ← hB]
  exact heap_alloc_new w _

theorem take_next {X : ByteArray} {m : Nat} (h : m < X.size) : X.data.toList.take (m + 1) = X.data.toList.take m ++ [X[m]] := by
  rw [List.take_succ_eq_append_getElem (by simpa using h)]; rfl
theorem each_fold {B base : Nat} {X : ByteArray} {m : Nat} {w : World} (h : m < X.size) (hE : Each B base (addB (addB (setL true (X.data.toList.take m)) X[m]) (other X[m])) w) : Each B base (setL true (X.data.toList.take (m + 1))) w := by
  rw [take_next h, setL_snoc]; exact hE
theorem each_plain {B base : Nat} {X : ByteArray} {m : Nat} {w : World} (h : m < X.size) (hE : Each B base (addB (setL false (X.data.toList.take m)) X[m]) w) : Each B base (setL false (X.data.toList.take (m + 1))) w := by
  rw [take_next h, setL_snoc]; exact hE

theorem own_cells {w : World} {base g cap : Nat} {acc : List UInt8} (h : w.ownsRow base 5 1 (.slice (some ⟨g, 0, none⟩) acc.length cap) acc.length (acc.map byteV)) :
    ∀ j (hj : j < acc.length), w.cell? ((⟨g, 0, none⟩ : Addr).add j) = some (.int .u8 (acc[j].toNat : Int)) := by
  intro j hj
  have hadd : (⟨g, 0, none⟩ : Addr).add j = ⟨g, j, none⟩ := by unfold Addr.add; split <;> simp_all
  rw [hadd]
  exact own_cell h j hj
theorem own_first {w : World} {base g cap : Nat} {S : List UInt8} {x : UInt8} {r : List UInt8} (h : w.ownsRow base 5 1 (.slice (some ⟨g, 0, none⟩) S.length cap) S.length (S.map byteV)) (hS : S = x :: r) : w.cell? ⟨g, 0, none⟩ = some (.int .u8 (x.toNat : Int)) := by
  subst hS
  exact own_cell h 0 (by simp)
theorem own_cast {w : World} {e base size a b : Nat} {v : Value} {xs ys : List Value} (h : w.ownsRow base e size v a xs) (e1 : a = b) (e2 : xs = ys) : w.ownsRow base e size v b ys := by
  subst e1; subst e2; exact h
theorem one_ok (c : UInt8) : ∀ u ∈ [byteV c], u.oneCell' = true := by intro u hu; simp at hu; subst hu; rfl
theorem three_ok (n : Nat) (S : List UInt8) : ∀ u ∈ [Value.int .i64 (n : Int), .int .i64 0, .string ⟨S.toArray⟩], u.oneCell' = true := by
  intro u hu
  simp only [List.mem_cons, List.not_mem_nil, or_false] at hu
  rcases hu with rfl | rfl | rfl <;> rfl
theorem max_ok {n : Nat} (h : n ≤ 16777216) : n ≤ maxLen := by unfold maxLen; omega
theorem set_first (fold : Bool) (l : List UInt8) (h : 0 < l.length) : ∃ x r, setL fold l = x :: r ∧ l.headD 0 = x := by
  cases l with
  | nil => simp at h
  | cons c l =>
    obtain ⟨r, hr⟩ := setL_head fold c l
    exact ⟨c, r, hr, rfl⟩

end Go.Proofs.Qxb6601350a
