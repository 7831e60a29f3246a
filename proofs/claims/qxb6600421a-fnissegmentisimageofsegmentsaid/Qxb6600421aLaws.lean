/-
  SEAT b6600421a: THE PLAIN LAWS: no Go in sight.
-/
import Derived.Test.Qxb6600421aPlain
namespace Go.Proofs.Qxb6600421a

theorem u8_all {p : UInt8 → Prop} (h : ∀ n : Fin 256, p (UInt8.ofNat n.val)) (c : UInt8) : p c := by
  have := h ⟨c.toNat, c.toNat_lt⟩
  simpa using this

theorem kept_not37 : keptB 37 = false := by decide
theorem kept_ne {c : UInt8} (h : keptB c = true) : c ≠ 37 ∧ c ≠ 47 ∧ c ≠ 0 := by
  refine ⟨?_, ?_, ?_⟩ <;> (rintro rfl; revert h; decide)

theorem hexV_range (c : UInt8) : hexV c = -1 ∨ (0 ≤ hexV c ∧ hexV c < 16) := by
  unfold hexV; split
  · right; omega
  · split
    · right; omega
    · left; rfl

theorem hexD_hexV (c : UInt8) : 0 ≤ hexV c → hexD (hexV c).toNat = c := by
  have := u8_all (p := fun c => 0 ≤ hexV c → hexD (hexV c).toNat = c) (by decide +kernel) c
  exact this

theorem hexV_hexD (d : Nat) (h : d < 16) : hexV (hexD d) = d := by
  have : ∀ n : Fin 16, hexV (hexD n.val) = n.val := by decide +kernel
  exact this ⟨d, h⟩

theorem hexB_hexD (c : UInt8) : hexB (hexD (c.toNat / 16)) (hexD (c.toNat % 16)) = c := by
  have hc := c.toNat_lt
  unfold hexB
  rw [hexV_hexD _ (by omega), hexV_hexD _ (by omega)]
  have e : ((c.toNat / 16 : Nat) : Int).toNat * 16 + ((c.toNat % 16 : Nat) : Int).toNat = c.toNat := by omega
  rw [e]; simp

theorem hexB_nat {h l : UInt8} (_hh : 0 ≤ hexV h) (_hl : 0 ≤ hexV l) : (hexB h l).toNat = (hexV h).toNat * 16 + (hexV l).toNat := by
  have a := hexV_range h
  have b := hexV_range l
  unfold hexB
  simp only [Nat.toUInt8, UInt8.toNat_ofNat']
  omega

theorem hexD_hexB {h l : UInt8} (hh : 0 ≤ hexV h) (hl : 0 ≤ hexV l) : hexD ((hexB h l).toNat / 16) = h ∧ hexD ((hexB h l).toNat % 16) = l := by
  have a := hexV_range h
  have b := hexV_range l
  rw [hexB_nat hh hl]
  have e1 : ((hexV h).toNat * 16 + (hexV l).toNat) / 16 = (hexV h).toNat := by omega
  have e2 : ((hexV h).toNat * 16 + (hexV l).toNat) % 16 = (hexV l).toNat := by omega
  rw [e1, e2]
  exact ⟨hexD_hexV h hh, hexD_hexV l hl⟩

theorem segC_kept {c : UInt8} (h : keptB c = true) : segC c = [c] := by simp [segC, h]
theorem segC_esc {c : UInt8} (h : keptB c = false) : segC c = [37, hexD (c.toNat / 16), hexD (c.toNat % 16)] := by simp [segC, h]
theorem segL_cons (c : UInt8) (l : List UInt8) : segL (c :: l) = segC c ++ segL l := by simp [segL]
theorem segL_nil : segL [] = [] := rfl

/-! ### The steps of each function -/
theorem wf_plain {c : UInt8} {r : List UInt8} (h : c ≠ 37) : wfL (c :: r) = wfL r := by rw [wfL.eq_def]; simp [h]
theorem wf_esc (h l : UInt8) (r : List UInt8) : wfL (37 :: h :: l :: r) = (decide (0 ≤ hexV h) && decide (0 ≤ hexV l) && wfL r) := by rw [wfL.eq_def]; simp
theorem wf_short1 : wfL [37] = false := by rw [wfL.eq_def]; simp
theorem wf_short2 (h : UInt8) : wfL [37, h] = false := by rw [wfL.eq_def]; simp
theorem name_plain {c : UInt8} {r : List UInt8} (h : c ≠ 37) : nameL (c :: r) = c :: nameL r := by rw [nameL.eq_def]; simp [h]
theorem name_esc (h l : UInt8) (r : List UInt8) : nameL (37 :: h :: l :: r) = hexB h l :: nameL r := by rw [nameL.eq_def]; simp
theorem is_kept {c : UInt8} {r : List UInt8} (h : keptB c = true) : isL (c :: r) = isL r := by rw [isL.eq_def]; simp [h]
theorem is_esc (h l : UInt8) (r : List UInt8) : isL (37 :: h :: l :: r) = (decide (0 ≤ hexV h) && decide (0 ≤ hexV l) && !keptB (hexB h l) && (hexB h l != 47 && hexB h l != 0) && isL r) := by
  rw [isL.eq_def]; simp [kept_not37]
theorem is_bad {c : UInt8} {r : List UInt8} (h : keptB c = false) (h' : c ≠ 37) : isL (c :: r) = false := by rw [isL.eq_def]; simp [h, h']
theorem is_short1 : isL [37] = false := by rw [isL.eq_def]; simp [kept_not37]
theorem is_short2 (h : UInt8) : isL [37, h] = false := by rw [isL.eq_def]; simp [kept_not37]

/-- Three ways through a string, escape by escape. -/
theorem by_escapes {p : List UInt8 → Prop} (nil : p []) (plain : ∀ c r, c ≠ 37 → p r → p (c :: r)) (esc : ∀ h l r, p r → p (37 :: h :: l :: r)) (s1 : p [37]) (s2 : ∀ h, p [37, h]) : ∀ (n : Nat) (l : List UInt8), l.length ≤ n → p l
  | _, [], _ => nil
  | 0, _ :: _, h => by simp at h
  | n + 1, c :: r, hn => by
    by_cases hc : c = 37
    · subst hc
      match r, hn with
      | [], _ => exact s1
      | [h], _ => exact s2 h
      | h :: l :: r', hn => exact esc h l r' (by_escapes nil plain esc s1 s2 n r' (by simp at hn; omega))
    · exact plain c r hc (by_escapes nil plain esc s1 s2 n r (by simpa using hn))

/-! ### Segment, then Name -/
theorem wf_seg : ∀ l : List UInt8, wfL (segL l) = true
  | [] => rfl
  | c :: l => by
    rw [segL_cons]
    have hc := c.toNat_lt
    cases hk : keptB c with
    | true => rw [segC_kept hk, List.singleton_append, wf_plain (kept_ne hk).1]; exact wf_seg l
    | false =>
      rw [segC_esc hk]
      show wfL (37 :: _ :: _ :: segL l) = true
      rw [wf_esc, hexV_hexD _ (by omega), hexV_hexD _ (by omega), wf_seg l]
      simp; omega

theorem name_seg : ∀ l : List UInt8, nameL (segL l) = l
  | [] => rfl
  | c :: l => by
    rw [segL_cons]
    cases hk : keptB c with
    | true => rw [segC_kept hk, List.singleton_append, name_plain (kept_ne hk).1, name_seg l]
    | false =>
      rw [segC_esc hk]
      show nameL (37 :: _ :: _ :: segL l) = _
      rw [name_esc, hexB_hexD, name_seg l]

/-! ### isSegment of Segment -/
theorem is_seg : ∀ l : List UInt8, isL (segL l) = noSN l
  | [] => rfl
  | c :: l => by
    rw [segL_cons]
    have hc := c.toNat_lt
    cases hk : keptB c with
    | true =>
      rw [segC_kept hk, List.singleton_append, is_kept hk, is_seg l]
      simp [noSN, (kept_ne hk).2.1, (kept_ne hk).2.2]
    | false =>
      rw [segC_esc hk]
      show isL (37 :: _ :: _ :: segL l) = _
      rw [is_esc, hexV_hexD _ (by omega), hexV_hexD _ (by omega), hexB_hexD, is_seg l, hk]
      have e1 : decide ((0 : Int) ≤ ((c.toNat / 16 : Nat) : Int)) = true := by simp; omega
      have e2 : decide ((0 : Int) ≤ ((c.toNat % 16 : Nat) : Int)) = true := by simp; omega
      rw [e1, e2]
      simp [noSN]

theorem seg_nil_iff (l : List UInt8) : segL l = [] ↔ l = [] := by
  constructor
  · intro h
    have := name_seg l
    rw [h] at this
    exact this.symm
  · rintro rfl; rfl

theorem seg_dot_iff (l : List UInt8) : segL l = [46] ↔ l = [46] := by
  constructor
  · intro h
    have := name_seg l
    rw [h] at this
    rw [← this]; decide
  · rintro rfl; decide

theorem isSeg_seg (l : List UInt8) : isSeg (segL l) = (l != [] && l != [46] && noSN l) := by
  unfold isSeg
  rw [is_seg]
  have e1 : (segL l != []) = (l != []) := by rw [Bool.eq_iff_iff]; simp [seg_nil_iff]
  have e2 : (segL l != [46]) = (l != [46]) := by rw [Bool.eq_iff_iff]; simp [seg_dot_iff]
  rw [e1, e2]

/-! ### Name against the encoding, the loose way -/
theorem enc_plain {c x : UInt8} {r e : List UInt8} (h : x ≠ 37) : encL (c :: r) (x :: e) = (x == c && encL r e) := by simp [encL, h]
theorem enc_esc (c h l : UInt8) (r e : List UInt8) : encL (c :: r) (37 :: h :: l :: e) = (h == hexD (c.toNat / 16) && l == hexD (c.toNat % 16) && encL r e) := by simp [encL]

theorem enc_name (l : List UInt8) : wfL l = true → encL (nameL l) l = true := by
  refine by_escapes (p := fun l => wfL l = true → encL (nameL l) l = true) ?_ ?_ ?_ ?_ ?_ l.length l (Nat.le_refl _)
  · intro _; rfl
  · intro c r hc ih hw
    rw [wf_plain hc] at hw
    rw [name_plain hc, enc_plain hc, ih hw]
    simp
  · intro h l r ih hw
    rw [wf_esc] at hw
    simp only [Bool.and_eq_true, decide_eq_true_eq] at hw
    obtain ⟨⟨hh, hl⟩, hw⟩ := hw
    rw [name_esc, enc_esc, (hexD_hexB hh hl).1, (hexD_hexB hh hl).2, ih hw]
    simp
  · intro hw; rw [wf_short1] at hw; cases hw
  · intro h hw; rw [wf_short2] at hw; cases hw

/-! ### isSegment is the image of Segment -/
theorem is_image (l : List UInt8) : isL l = (wfL l && (segL (nameL l) == l && noSN (nameL l))) := by
  refine by_escapes (p := fun l => isL l = (wfL l && (segL (nameL l) == l && noSN (nameL l)))) ?_ ?_ ?_ ?_ ?_ l.length l (Nat.le_refl _)
  · rfl
  · intro c r hc ih
    rw [wf_plain hc, name_plain hc, segL_cons]
    cases hk : keptB c with
    | true =>
      rw [is_kept hk, segC_kept hk, ih]
      have e1 : (c != 47) = true := by simpa using (kept_ne hk).2.1
      have e2 : (c != 0) = true := by simpa using (kept_ne hk).2.2
      have e3 : ([c] ++ segL (nameL r) == c :: r) = (segL (nameL r) == r) := by rw [Bool.eq_iff_iff]; simp
      rw [e3]
      simp only [noSN, List.all_cons, e1, e2, Bool.true_and]
    | false =>
      rw [is_bad hk hc, segC_esc hk]
      have : ¬ (37 : UInt8) = c := fun h => hc h.symm
      simp [this]
  · intro h l r ih
    rw [wf_esc, name_esc, segL_cons, is_esc, ih]
    by_cases hh : 0 ≤ hexV h
    · by_cases hl : 0 ≤ hexV l
      · cases hk : keptB (hexB h l) with
        | true =>
          rw [segC_kept hk]
          have : hexB h l ≠ 37 := (kept_ne hk).1
          simp [this]
        | false =>
          rw [segC_esc hk, (hexD_hexB hh hl).1, (hexD_hexB hh hl).2]
          simp only [hh, hl, noSN, List.all_cons]
          generalize (hexB h l != 47 && hexB h l != 0) = a
          generalize wfL r = b
          generalize ((nameL r).all fun c => c != 47 && c != 0) = d
          have e : ([37, h, l] ++ segL (nameL r) == 37 :: h :: l :: r) = (segL (nameL r) == r) := by
            rw [Bool.eq_iff_iff]; simp
          rw [e]
          generalize (segL (nameL r) == r) = f
          revert a b d f; decide
      · simp [hl]
    · simp [hh]
  · rw [is_short1, wf_short1]; rfl
  · intro h; rw [is_short2, wf_short2]; rfl

theorem isSeg_image (l : List UInt8) : isSeg l = (l != [] && l != [46] && wfL l && (segL (nameL l) == l && noSN (nameL l))) := by
  unfold isSeg; rw [is_image]; simp only [Bool.and_assoc]

theorem isSeg_wf {l : List UInt8} (h : isSeg l = true) : wfL l = true ∧ segL (nameL l) = l := by
  rw [isSeg_image] at h
  simp only [Bool.and_eq_true, beq_iff_eq] at h
  exact ⟨h.1.2, h.2.1⟩

/-! ### Sizes -/
theorem escs_cons (c : UInt8) (l : List UInt8) : escs (c :: l) = (if keptB c then 0 else 1) + escs l := by
  unfold escs; cases h : keptB c <;> simp [h]; omega
theorem escs_nil : escs [] = 0 := rfl
theorem escs_le : ∀ l : List UInt8, escs l ≤ l.length := fun l => by unfold escs; exact List.length_filter_le _ _
theorem seg_length : ∀ l : List UInt8, (segL l).length = l.length + 2 * escs l
  | [] => rfl
  | c :: l => by
    rw [segL_cons, escs_cons, List.length_append, seg_length l]
    cases hk : keptB c with
    | true => rw [segC_kept hk]; simp; omega
    | false => rw [segC_esc hk]; simp; omega
theorem seg_of_noesc : ∀ l : List UInt8, escs l = 0 → segL l = l
  | [], _ => rfl
  | c :: l, h => by
    rw [escs_cons] at h
    cases hk : keptB c with
    | true => rw [segL_cons, segC_kept hk, seg_of_noesc l (by omega)]; rfl
    | false => rw [hk] at h; simp at h
theorem name_length (l : List UInt8) : (nameL l).length ≤ l.length := by
  refine by_escapes (p := fun l => (nameL l).length ≤ l.length) ?_ ?_ ?_ ?_ ?_ l.length l (Nat.le_refl _)
  · exact Nat.le_refl _
  · intro c r hc ih; rw [name_plain hc]; simp; omega
  · intro h l r ih; rw [name_esc]; simp; omega
  · rw [nameL.eq_def]; simp
  · intro h; rw [nameL.eq_def]; simp
theorem name_of_no37 : ∀ l : List UInt8, (37 : UInt8) ∉ l → nameL l = l
  | [], _ => rfl
  | c :: l, h => by
    simp only [List.mem_cons, not_or] at h
    rw [name_plain (fun e => h.1 e.symm), name_of_no37 l h.2]

end Go.Proofs.Qxb6600421a
