/-
  SEAT b6601350a: THE WALK OF FnNamePlacesMatchesModel.
-/
import Derived.Test.Qxb6601350aMod
namespace Go.Proofs.Qxb6601350a
open Go.RowKit

theorem conv_nil (w : World) : (convert 32 9 (.slice none 0 0)).run Try.prog w = .ok (.string ⟨#[]⟩) w := by kernel_rfl
theorem conv_own {w : World} {base : Nat} {v : Value} {l : List UInt8} (h : w.ownsRow base 5 1 v l.length (l.map byteV)) : (convert 32 9 v).run Try.prog w = .ok (.string ⟨l.toArray⟩) w := by
  rcases h.2 with ⟨hv, hn⟩ | ⟨g, cap, cur, hv, _⟩
  · have hl : l = [] := List.eq_nil_of_length_eq_zero hn
    subst hl
    rw [hv]; exact conv_nil w
  · rw [hv] at h ⊢
    exact run_convert_bytes_back (P := Try.prog) w 32 9 5 ⟨g, 0, none⟩ cap l Try.underlying32 Try.underlying5 Try.underlying9 (own_cells h)

/-- A row of one-cell elements: its form and its cell m. -/
theorem row_at {w : World} {base e n m : Nat} {ao : Option Addr} {c : Nat} {xs : List Value} {u : Value} (h : w.ownsRow base e 1 (.slice ao n c) n xs) (hm : m < n) (hu : xs[m]? = some u) : ∃ g, ao = some ⟨g, 0, none⟩ ∧ w.cell? ⟨g, m, none⟩ = some u := by
  obtain ⟨g, cap, hv, _, _⟩ := h.form (by omega)
  simp only [Value.slice.injEq, true_and] at hv
  obtain ⟨rfl, rfl⟩ := hv
  exact ⟨g, rfl, (h.cellAt m (by omega)).trans hu⟩

set_option maxHeartbeats 4000000 in
theorem walk6_in (text mask : ByteArray) (fold : Bool) (w1' : text.size ≤ maxLen) (w2' : mask.size ≤ maxLen) (w : World) (hb : text.size + mask.size ≤ 1048576) (hl1 : text.size ≤ 524288) (hl2 : mask.size ≤ 524288) :
    Calls Try.prog 6 #[.string text, .string mask, .bool fold] w fun e w' => e = .returned (.bool true) ∧ Below w.heap.size w w' := by
  go_enter Try.func6, Try.ntmps6
  go_wp2_with (go_at_call 20; refine (guard_any _ _ _ _ w1' w2' true (decide_eq_true hb)).mono ?_; rintro e w' ⟨rfl, rfl⟩)
  refine (fit_any text mask _ hl1 hl2).mono ?_
  rintro e w' ⟨⟨b, rfl, hbF⟩, rfl⟩
  have HBF : Hid (b = true → mask.size = text.size ∧ Fit text.data.toList mask.data.toList) := hbF
  clear hbF
  cases b
  · go_wp2
    go_ret
    exact ⟨rfl, Below.refl _ _⟩
  have HM : Hid (mask.size = text.size) := (HBF.out rfl).1
  have HF : Hid (Fit text.data.toList mask.data.toList) := (HBF.out rfl).2
  clear HBF
  go_wp2_with fail
  refine (zzPlaces_any text mask fold w hl1 HM.out HF.out).mono ?_
  rintro e wa ⟨vh, va, vl, vs, r, rfl, hR, hN, oh, oa, ol, os, hba⟩
  obtain ⟨ah, ch, rfl⟩ := own_form oh
  obtain ⟨aa, ca, rfl⟩ := own_form oa
  obtain ⟨al, cl, rfl⟩ := own_form ol
  obtain ⟨as_, cs, rfl⟩ := own_form os
  have HR : Hid (Rounds text.data.toList mask.data.toList fold r ∧ ¬ (stAt text.data.toList mask.data.toList fold r).at_ < text.data.toList.length) := ⟨hR, hN⟩
  have HO : Hid (wa.ownsRow w.heap.size 5 1 (.slice ah (stAt text.data.toList mask.data.toList fold r).head.length ch) (stAt text.data.toList mask.data.toList fold r).head.length ((stAt text.data.toList mask.data.toList fold r).head.map byteV) ∧
      wa.ownsRow w.heap.size 3 1 (.slice aa (stAt text.data.toList mask.data.toList fold r).offs.length ca) (stAt text.data.toList mask.data.toList fold r).offs.length ((stAt text.data.toList mask.data.toList fold r).offs.map offV) ∧
      wa.ownsRow w.heap.size 3 1 (.slice al (stAt text.data.toList mask.data.toList fold r).offs.length cl) (stAt text.data.toList mask.data.toList fold r).offs.length ((stAt text.data.toList mask.data.toList fold r).offs.map fun _ => Value.int .i64 0) ∧
      wa.ownsRow w.heap.size 9 1 (.slice as_ (stAt text.data.toList mask.data.toList fold r).offs.length cs) (stAt text.data.toList mask.data.toList fold r).offs.length ((stAt text.data.toList mask.data.toList fold r).sets.map strV)) := ⟨oh, oa, ol, os⟩
  have HBA : Hid (Below w.heap.size w wa) := hba
  clear hR hN oh oa ol os hba
  go_wp2_with fail
  refine (model_any text mask fold wa hl1 HM.out HF.out).mono ?_
  rintro e wb ⟨vh', va', vs', r', rfl, hR', hN', hPM, hbb⟩
  have hrr : r' = r := rounds_same hR' HR.out.1 hN' HR.out.2
  subst hrr
  obtain ⟨oh', oa', os'⟩ := hPM
  obtain ⟨ah', ch', rfl⟩ := own_form oh'
  obtain ⟨aa', ca', rfl⟩ := own_form oa'
  obtain ⟨as', cs', rfl⟩ := own_form os'
  have oh := own_below HO.out.1 hbb
  have oa := own_below HO.out.2.1 hbb
  have ol := own_below HO.out.2.2.1 hbb
  have os := own_below HO.out.2.2.2 hbb
  have HBB : Hid (Below w.heap.size w wb) := HBA.out.trans (hbb.mono HBA.out.size)
  have bnd := st_bounds text.data.toList mask.data.toList fold r'
  have hrt := rounds_le hR'
  have hlt := Lib.size_eq text
  clear HO HBA HR hR' hN' hbb HF HM
  generalize stAt text.data.toList mask.data.toList fold r' = st at *
  obtain ⟨at0, head, offs, sets⟩ := st
  simp only at oh oa ol os oh' oa' os' bnd
  have hN : offs.length ≤ 524288 := by omega
  have hsl : sets.length = offs.length := bnd.2.2.1
  have k1 := conv_own oh
  have k2 := conv_own oh'
  have OA : Hid (wb.ownsRow w.heap.size 3 1 (.slice aa offs.length ca) offs.length (offs.map offV)) := oa
  have OL : Hid (wb.ownsRow w.heap.size 3 1 (.slice al offs.length cl) offs.length (offs.map fun _ => Value.int .i64 0)) := ol
  have OS : Hid (wb.ownsRow w.heap.size 9 1 (.slice as_ offs.length cs) offs.length (sets.map strV)) := os
  have OA' : Hid (wb.ownsRow wa.heap.size 3 1 (.slice aa' offs.length ca') offs.length (offs.map offV)) := oa'
  have OS' : Hid (wb.ownsRow wa.heap.size 9 1 (.slice as' offs.length cs') offs.length (sets.map strV)) := os'
  have HSL : Hid (sets.length = offs.length) := hsl
  clear oh oa ol os oh' oa' os' bnd hrt hlt hsl
  go_wp2
  clear k1 k2
  go_loopw [14] (fun i wr => ∃ m : Nat, m ≤ offs.length ∧ i = .int .i64 m ∧ wr.ownsRow w.heap.size 3 1 (.slice aa offs.length ca) offs.length (offs.map offV) ∧ wr.ownsRow w.heap.size 3 1 (.slice al offs.length cl) offs.length (offs.map fun _ => Value.int .i64 0) ∧ wr.ownsRow w.heap.size 9 1 (.slice as_ offs.length cs) offs.length (sets.map strV) ∧
      wr.ownsRow wa.heap.size 3 1 (.slice aa' offs.length ca') offs.length (offs.map offV) ∧ wr.ownsRow wa.heap.size 9 1 (.slice as' offs.length cs') offs.length (sets.map strV) ∧ Below w.heap.size w wr) (fun i _ => offs.length - (intOf i).toNat)
  case atStart => exact ⟨0, Nat.zero_le _, rfl, OA.out, OL.out, OS.out, OA'.out, OS'.out, HBB.out⟩
  case round =>
    clear OA OL OS OA' OS' HBB
    obtain ⟨m, hm, rfl, oa, ol, os, oa', os', hbw⟩ := hrel
    have HX : Hid (wr.ownsRow w.heap.size 3 1 (.slice aa offs.length ca) offs.length (offs.map offV) ∧ wr.ownsRow w.heap.size 3 1 (.slice al offs.length cl) offs.length (offs.map fun _ => Value.int .i64 0) ∧ wr.ownsRow w.heap.size 9 1 (.slice as_ offs.length cs) offs.length (sets.map strV) ∧
      wr.ownsRow wa.heap.size 3 1 (.slice aa' offs.length ca') offs.length (offs.map offV) ∧ wr.ownsRow wa.heap.size 9 1 (.slice as' offs.length cs') offs.length (sets.map strV) ∧ Below w.heap.size w wr) := ⟨oa, ol, os, oa', os', hbw⟩
    by_cases hlt : m < offs.length
    · have hls : m < sets.length := by have := HSL.out; omega
      obtain ⟨g1, rfl, c1⟩ := row_at (u := .int .i64 (offs[m] : Int)) oa hlt (by simp [List.getElem?_eq_getElem hlt, offV])
      obtain ⟨g2, rfl, c2⟩ := row_at (u := .int .i64 0) ol hlt (by simp [List.getElem?_eq_getElem hlt])
      obtain ⟨g3, rfl, c3⟩ := row_at (u := .string ⟨sets[m].toArray⟩) os hlt (by simp [List.getElem?_eq_getElem hls, strV])
      obtain ⟨g4, rfl, c4⟩ := row_at (u := .int .i64 (offs[m] : Int)) oa' hlt (by simp [List.getElem?_eq_getElem hlt, offV])
      obtain ⟨g5, rfl, c5⟩ := row_at (u := .string ⟨sets[m].toArray⟩) os' hlt (by simp [List.getElem?_eq_getElem hls, strV])
      clear oa ol os oa' os' hbw
      have j1 : (0 : Int) ≤ (m : Int) := by omega
      have j2 : (m : Int) < (offs.length : Int) := by omega
      go_wp2
      go_quiet (fail)
      go_wp2
      go_roundw
      case rel => exact ⟨m + 1, by omega, by go_num, HX.out.1, HX.out.2.1, HX.out.2.2.1, HX.out.2.2.2.1, HX.out.2.2.2.2.1, bel_drewN HX.out.2.2.2.2.2 _⟩
      case measure => simp [intOf]; omega
    · clear oa ol os oa' os'
      go_wp2
      go_ret
      exact ⟨rfl, HX.out.2.2.2.2.2⟩

set_option maxHeartbeats 2000000 in
theorem walk6 (text mask : ByteArray) (fold : Bool) (w1 : text.size ≤ maxLen) (w2 : mask.size ≤ maxLen) (w : World) :
    Calls Try.prog 6 #[.string text, .string mask, .bool fold] w fun e w' => e = .returned (.bool true) ∧ Below w.heap.size w w' := by
  by_cases hb : text.size + mask.size ≤ 1048576
  · by_cases hl1 : text.size ≤ 524288
    · by_cases hl2 : mask.size ≤ 524288
      · exact walk6_in text mask fold w1 w2 w hb hl1 hl2
      · go_enter Try.func6, Try.ntmps6
        go_wp2_with (go_at_call 20; refine (guard_any _ _ _ _ w1 w2 true (decide_eq_true hb)).mono ?_; rintro e w' ⟨rfl, rfl⟩)
        go_ret
        exact ⟨rfl, Below.refl _ _⟩
    · go_enter Try.func6, Try.ntmps6
      go_wp2_with (go_at_call 20; refine (guard_any _ _ _ _ w1 w2 true (decide_eq_true hb)).mono ?_; rintro e w' ⟨rfl, rfl⟩)
      go_ret
      exact ⟨rfl, Below.refl _ _⟩
  · go_enter Try.func6, Try.ntmps6
    go_wp2_with (go_at_call 20; refine (guard_any _ _ _ _ w1 w2 false (decide_eq_false hb)).mono ?_; rintro e w' ⟨rfl, rfl⟩)
    go_ret
    exact ⟨rfl, Below.refl _ _⟩
end Go.Proofs.Qxb6601350a
