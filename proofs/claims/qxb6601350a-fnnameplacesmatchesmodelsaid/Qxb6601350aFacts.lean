/-
  SEAT b6601350a: THE ROW's CLOSED FACTS, EACH A LEMMA OF ITS OWN (together in one declaration they outgrow the kernel's memory).
-/
import Derived.Test.Qxb6601350aRows
import Derived.JoinedOf
import Derived.KernelRfl
namespace Go.Proofs.Qxb6601350a.fnNamePlacesMatchesModel
open Go

theorem and_i {a b : Bool} (ha : a = true) (hb : b = true) : (a && b) = true := by rw [ha, hb]; rfl

set_option maxHeartbeats 20000000 in
theorem closed : joinedFacts Try.pinned.checked.prog 6 Try.f6 Rows.fnNamePlacesMatchesModelSpec Rows.fnNamePlacesMatchesModelRow = true := by
  unfold joinedFacts
  refine and_i (and_i (and_i (and_i (and_i (and_i (and_i (and_i (and_i (and_i (and_i (and_i (and_i (and_i (and_i (and_i (and_i (and_i (and_i (and_i (and_i (and_i (and_i (and_i (and_i (and_i (and_i (and_i (and_i (and_i (and_i ?_ ?_) ?_) ?_) ?_) ?_) ?_) ?_) ?_) ?_) ?_) ?_) ?_) ?_) ?_) ?_) ?_) ?_) ?_) ?_) ?_) ?_) ?_) ?_) ?_) ?_) ?_) ?_) ?_) ?_) ?_) ?_
  all_goals (as_aux_lemma => kernel_rfl)

theorem named : Try.pinned.checked.prog.funcNamed Rows.fnNamePlacesMatchesModelRow.func = some 6 := by kernel_rfl
end Go.Proofs.Qxb6601350a.fnNamePlacesMatchesModel
