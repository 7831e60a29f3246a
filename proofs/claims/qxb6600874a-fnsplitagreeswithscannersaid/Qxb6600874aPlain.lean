/-
  SEAT b6600874a: THE PLAIN FUNCTIONS AND LAWS: split, the scanner, on lists of bytes. No Go in sight.
-/
namespace Go.Proofs.Qxb6600874a

/-- An ASCII digit, on a number. -/
def digI (n : Int) : Bool := decide (48 ≤ n) && decide (n ≤ 57)
def digB (c : UInt8) : Bool := digI (c.toNat : Int)
def allD (l : List UInt8) : Bool := l.all digB
def digs (l : List UInt8) : Bool := !l.isEmpty && allD l

/-- TrimPrefix(s, "-"). -/
def trimL : List UInt8 → List UInt8
  | [] => []
  | b :: l => if b == 45 then l else b :: l

/-- Cut(s, "."). -/
def cutL : List UInt8 → List UInt8 × List UInt8 × Bool
  | [] => ([], [], false)
  | b :: l => if b == 46 then ([], l, true) else (b :: (cutL l).1, (cutL l).2.1, (cutL l).2.2)

/-- split. -/
def splitL (l : List UInt8) : List UInt8 × List UInt8 × Bool :=
  if !digs (cutL (trimL l)).1 || ((cutL (trimL l)).2.2 && !digs (cutL (trimL l)).2.1) then ([], [], false) else ((cutL (trimL l)).1, (cutL (trimL l)).2.1, true)

/-- The scanner, behind the sign. -/
def scanT (t : List UInt8) : List UInt8 × List UInt8 × Bool :=
  if (t.takeWhile digB).isEmpty then ([], [], false) else
    match t.dropWhile digB with
    | [] => (t.takeWhile digB, [], true)
    | x :: f => if x == 46 && digs f then (t.takeWhile digB, f, true) else ([], [], false)
def scanL (l : List UInt8) : List UInt8 × List UInt8 × Bool := scanT (trimL l)

theorem dig_ne {c : UInt8} (h : digB c = true) : c ≠ 46 ∧ c ≠ 45 := by
  constructor <;> (rintro rfl; revert h; decide)

theorem cut_digits : ∀ (d r : List UInt8), allD d = true → cutL (d ++ r) = (d ++ (cutL r).1, (cutL r).2.1, (cutL r).2.2)
  | [], _, _ => rfl
  | c :: d, r, h => by
    unfold allD at h
    rw [List.all_cons, Bool.and_eq_true] at h
    have ih := cut_digits d r h.2
    have hc := (dig_ne h.1).1
    show cutL (c :: (d ++ r)) = _
    rw [cutL]
    simp [hc, ih]

theorem all_takeWhile : ∀ l : List UInt8, allD (l.takeWhile digB) = true
  | [] => rfl
  | c :: l => by
    cases h : digB c with
    | true =>
      have ih := all_takeWhile l
      unfold allD at ih ⊢
      rw [List.takeWhile_cons, h]; simp [h, ih]
    | false => rw [List.takeWhile_cons, h]; rfl
theorem head_dropWhile : ∀ (l : List UInt8) (x : UInt8) (r : List UInt8), l.dropWhile digB = x :: r → digB x = false
  | [], _, _, h => by cases h
  | c :: l, x, r, h => by
    rw [List.dropWhile_cons] at h
    cases hc : digB c with
    | true => rw [hc] at h; exact head_dropWhile l x r h
    | false => rw [hc] at h; simp at h; rw [← h.1]; exact hc

theorem split_scan (l : List UInt8) : splitL l = scanL l := by
  unfold splitL scanL scanT
  generalize trimL l = t
  have hsp := List.takeWhile_append_dropWhile (p := digB) (l := t)
  have hall := all_takeWhile t
  have hhd := head_dropWhile t
  generalize t.takeWhile digB = d at hsp hall
  generalize t.dropWhile digB = r at hsp hhd
  subst hsp
  rw [cut_digits d r hall]
  match r, hhd with
  | [], _ =>
    simp only [cutL, List.append_nil]
    cases d with
    | nil => rfl
    | cons a d' => unfold digs; rw [hall]; rfl
  | x :: f, hhd =>
    have hx := hhd x f rfl
    by_cases h46 : x = 46
    · subst h46
      have e : cutL (46 :: f) = ([], f, true) := by rw [cutL]; simp
      rw [e]
      simp only [List.append_nil, Bool.true_and]
      cases d with
      | nil => rfl
      | cons a d' =>
        have e2 : digs (a :: d') = true := by unfold digs; rw [hall]; rfl
        rw [e2]
        cases digs f <;> rfl
    · have e : (cutL (x :: f)).1 = x :: (cutL f).1 := by rw [cutL]; simp [h46]
      have e2 : digs (d ++ (cutL (x :: f)).1) = false := by
        rw [e]; unfold digs allD
        simp [hx]
      rw [e2]
      simp [h46]

/-! ### split of what was joined -/
theorem cut_none {l : List UInt8} (h : allD l = true) : cutL l = (l, [], false) := by
  have := cut_digits l [] h
  simpa [cutL] using this
theorem cut_point {l f : List UInt8} (h : allD l = true) : cutL (l ++ 46 :: f) = (l, f, true) := by
  have := cut_digits l (46 :: f) h
  rw [this, cutL]; simp

theorem trim_digits {l r : List UInt8} (h : digs l = true) : trimL (l ++ r) = l ++ r := by
  cases l with
  | nil => cases h
  | cons c l =>
    unfold digs allD at h
    simp at h
    have := (dig_ne h.1).2
    show trimL (c :: (l ++ r)) = _
    rw [trimL]; simp [this]
theorem trim_minus (l : List UInt8) : trimL (45 :: l) = l := by rw [trimL]; simp

theorem split_plain {w : List UInt8} (hw : digs w = true) (l : List UInt8) (hl : trimL l = w) : splitL l = (w, [], true) := by
  have ha : allD w = true := by unfold digs at hw; simp at hw; exact hw.2
  unfold splitL
  rw [hl, cut_none ha, hw]; rfl
theorem split_point {w f : List UInt8} (hw : digs w = true) (hf : digs f = true) (l : List UInt8) (hl : trimL l = w ++ 46 :: f) : splitL l = (w, f, true) := by
  have ha : allD w = true := by unfold digs at hw; simp at hw; exact hw.2
  unfold splitL
  rw [hl, cut_point ha, hw, hf]; rfl

/-! ### The scanner, by places -/
theorem scan_places : ∀ (l : List UInt8) (n : Nat), allD (l.take n) = true → n ≤ l.length → (∀ x r, l.drop n = x :: r → digB x = false) → l.takeWhile digB = l.take n ∧ l.dropWhile digB = l.drop n
  | l, 0, _, _, h => by
    cases l with
    | nil => exact ⟨rfl, rfl⟩
    | cons c l =>
      have := h c l rfl
      rw [List.takeWhile_cons, List.dropWhile_cons, this]; exact ⟨rfl, rfl⟩
  | [], _ + 1, _, hn, _ => by simp at hn
  | c :: l, n + 1, ha, hn, h => by
    unfold allD at ha
    rw [List.take_succ_cons, List.all_cons, Bool.and_eq_true] at ha
    have ih := scan_places l n ha.2 (by simpa using hn) (by intro x r e; exact h x r (by simpa using e))
    rw [List.takeWhile_cons, List.dropWhile_cons, ha.1]
    simp [ih.1, ih.2]

theorem allD_snoc (l : List UInt8) (c : UInt8) : allD (l ++ [c]) = (allD l && digB c) := by unfold allD; simp

end Go.Proofs.Qxb6600874a
