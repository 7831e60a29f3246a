/-
  SEAT b6601350a: THE PLAIN FUNCTIONS AND LAWS: a unit of text, the set of a unit, the run over the units; the model's table. No Go in sight.
-/
import Derived.Lib.Bytealg
namespace Go.Proofs.Qxb6601350a

/-- The other case of an ASCII letter; any other byte itself. -/
def otherI (n : Int) : Int := if 97 ≤ n ∧ n ≤ 122 then n - 32 else if 65 ≤ n ∧ n ≤ 90 then n + 32 else n
def other (c : UInt8) : UInt8 := if 97 ≤ c.toNat ∧ c.toNat ≤ 122 then (c.toNat - 32).toUInt8 else if 65 ≤ c.toNat ∧ c.toNat ≤ 90 then (c.toNat + 32).toUInt8 else c

theorem u8_all {p : UInt8 → Prop} (h : ∀ n : Fin 256, p (UInt8.ofNat n.val)) (c : UInt8) : p c := by
  have := h ⟨c.toNat, c.toNat_lt⟩
  simpa using this
theorem otherI_byte (c : UInt8) : otherI (c.toNat : Int) = ((other c).toNat : Int) :=
  u8_all (p := fun c => otherI (c.toNat : Int) = ((other c).toNat : Int)) (by decide +kernel) c

/-- One more byte, if it is not there yet. -/
def addB (l : List UInt8) (c : UInt8) : List UInt8 := if l.contains c then l else l ++ [c]

/-- The bytes that a unit's characters name, in order. -/
def namedBy (fold : Bool) (l : List UInt8) : List UInt8 := l.flatMap fun c => if fold then [c, other c] else [c]

/-- The set of a unit: each once, in the order of first need. -/
def setL (fold : Bool) (l : List UInt8) : List UInt8 := (namedBy fold l).foldl addB []

theorem setL_nil (fold : Bool) : setL fold [] = [] := rfl
theorem setL_snoc (fold : Bool) (l : List UInt8) (c : UInt8) : setL fold (l ++ [c]) = if fold then addB (addB (setL fold l) c) (other c) else addB (setL fold l) c := by
  unfold setL namedBy
  rw [List.flatMap_append, List.foldl_append]
  cases fold <;> rfl

theorem addB_length (l : List UInt8) (c : UInt8) : (addB l c).length ≤ l.length + 1 := by unfold addB; split <;> simp
theorem setL_length (fold : Bool) (l : List UInt8) : (setL fold l).length ≤ 2 * l.length := by
  have key : ∀ (xs acc : List UInt8), (xs.foldl addB acc).length ≤ acc.length + xs.length := by
    intro xs
    induction xs with
    | nil => intro acc; simp
    | cons x xs ih =>
      intro acc
      have := ih (addB acc x)
      have := addB_length acc x
      simp only [List.foldl_cons, List.length_cons]
      omega
  have h2 : (namedBy fold l).length ≤ 2 * l.length := by
    unfold namedBy
    induction l with
    | nil => simp
    | cons c l ih => cases fold <;> simp at ih ⊢ <;> omega
  have := key (namedBy fold l) []
  unfold setL
  simp at this
  omega

/-- The head of the set is the first character. -/
theorem addB_head (l : List UInt8) (c x : UInt8) (r : List UInt8) (h : l = x :: r) : ∃ r', addB l c = x :: r' := by
  subst h
  unfold addB
  split
  · exact ⟨r, rfl⟩
  · exact ⟨r ++ [c], rfl⟩
theorem setL_head (fold : Bool) (c : UInt8) (l : List UInt8) : ∃ r, setL fold (c :: l) = c :: r := by
  have key : ∀ (xs : List UInt8) (x : UInt8) (r : List UInt8), ∃ r', xs.foldl addB (x :: r) = x :: r' := by
    intro xs
    induction xs with
    | nil => intro x r; exact ⟨r, rfl⟩
    | cons y xs ih =>
      intro x r
      obtain ⟨r', h⟩ := addB_head (x :: r) y x r rfl
      obtain ⟨r'', h''⟩ := ih x r'
      exact ⟨r'', by rw [List.foldl_cons, h]; exact h''⟩
  have e0 : addB [] c = [c] := rfl
  unfold setL namedBy
  cases fold
  · rw [List.flatMap_cons, List.foldl_append]
    exact key _ c []
  · rw [List.flatMap_cons, List.foldl_append]
    show ∃ r, List.foldl addB (addB [c] (other c)) _ = c :: r
    obtain ⟨r, h⟩ := addB_head [c] (other c) c [] rfl
    rw [h]
    exact key _ c r

/-! ### The model's slots and table -/
def slotAt (fold : Bool) (l : List UInt8) (q : Nat) : Option UInt8 := if q % 2 = 0 then l[q / 2]? else if fold then (l[q / 2]?).map other else none
/-- The bytes of the slots below q. -/
def before (fold : Bool) (l : List UInt8) : Nat → List UInt8
  | 0 => []
  | q + 1 => before fold l q ++ (slotAt fold l q).toList
/-- The table 'first' when the slots below m have been met. -/
def tbl (fold : Bool) (l : List UInt8) (b : UInt8) : Nat → Int
  | 0 => -1
  | m + 1 => if tbl fold l b m < 0 ∧ slotAt fold l m = some b then (m : Int) else tbl fold l b m

theorem tbl_range (fold : Bool) (l : List UInt8) (b : UInt8) : ∀ m, tbl fold l b m = -1 ∨ (0 ≤ tbl fold l b m ∧ tbl fold l b m < m)
  | 0 => .inl rfl
  | m + 1 => by
    have ih := tbl_range fold l b m
    rw [tbl]; split
    · right; omega
    · rcases ih with h | h
      · exact .inl h
      · right; omega
theorem tbl_mem (fold : Bool) (l : List UInt8) (b : UInt8) : ∀ m, 0 ≤ tbl fold l b m ↔ b ∈ before fold l m
  | 0 => by simp [tbl, before]
  | m + 1 => by
    have ih := tbl_mem fold l b m
    rw [tbl, before, List.mem_append]
    by_cases h : tbl fold l b m < 0 ∧ slotAt fold l m = some b
    · rw [if_pos h]
      constructor
      · intro _; right; rw [h.2]; simp
      · intro _; omega
    · rw [if_neg h, ih]
      constructor
      · intro h'; exact .inl h'
      · rintro (h' | h')
        · exact h'
        · rw [Option.mem_toList] at h'
          have : ¬ tbl fold l b m < 0 := fun hn => h ⟨hn, h'⟩
          exact ih.1 (by omega)
theorem tbl_keep (fold : Bool) (l : List UInt8) (b : UInt8) (m : Nat) (h : 0 ≤ tbl fold l b m) : ∀ n, tbl fold l b (m + n) = tbl fold l b m
  | 0 => rfl
  | n + 1 => by
    have ih := tbl_keep fold l b m h n
    show tbl fold l b (m + n + 1) = _
    rw [tbl, if_neg (by rw [ih]; omega), ih]
/-- At slot q the table says q just where the byte has not been met. -/
theorem tbl_hit (fold : Bool) (l : List UInt8) (q N : Nat) (c : UInt8) (hq : q < N) (hc : slotAt fold l q = some c) : tbl fold l c N = q ↔ c ∉ before fold l q := by
  have hN : N = (q + 1) + (N - (q + 1)) := by omega
  by_cases hm : c ∈ before fold l q
  · have h0 : 0 ≤ tbl fold l c q := (tbl_mem fold l c q).2 hm
    have hr := tbl_range fold l c q
    have hk := tbl_keep fold l c q h0 (N - q)
    have e : q + (N - q) = N := by omega
    rw [e] at hk
    rw [hk]
    constructor
    · intro h; exfalso; omega
    · intro h; exact absurd hm h
  · have h0 : ¬ 0 ≤ tbl fold l c q := fun h => hm ((tbl_mem fold l c q).1 h)
    have h1 : tbl fold l c (q + 1) = q := by rw [tbl, if_pos ⟨by omega, hc⟩]
    have hk := tbl_keep fold l c (q + 1) (by rw [h1]; omega) (N - (q + 1))
    rw [← hN, h1] at hk
    rw [hk]
    exact ⟨fun _ => hm, fun _ => rfl⟩

theorem fold_mem : ∀ (xs acc : List UInt8) (c : UInt8), c ∈ xs.foldl addB acc ↔ c ∈ acc ∨ c ∈ xs
  | [], acc, c => by simp
  | x :: xs, acc, c => by
    rw [List.foldl_cons, fold_mem xs (addB acc x) c]
    have : c ∈ addB acc x ↔ c ∈ acc ∨ c = x := by
      unfold addB
      split
      · rename_i h
        have hx : x ∈ acc := by simpa using h
        constructor
        · exact .inl
        · rintro (h | rfl)
          · exact h
          · exact hx
      · simp
    rw [this, List.mem_cons, or_assoc]

theorem addB_new {l : List UInt8} {c : UInt8} (h : c ∉ l) : addB l c = l ++ [c] := by unfold addB; rw [if_neg (by simpa using h)]
theorem addB_old {l : List UInt8} {c : UInt8} (h : c ∈ l) : addB l c = l := by unfold addB; rw [if_pos (by simpa using h)]

/-- What the model has put out when the slots below q have been met. -/
def outAt (fold : Bool) (l : List UInt8) (q : Nat) : List UInt8 := (before fold l q).foldl addB []

theorem out_zero (fold : Bool) (l : List UInt8) : outAt fold l 0 = [] := rfl
theorem out_none {fold : Bool} {l : List UInt8} {q : Nat} (h : slotAt fold l q = none) : outAt fold l (q + 1) = outAt fold l q := by
  unfold outAt; rw [before, h]; simp
theorem out_new {fold : Bool} {l : List UInt8} {q : Nat} {c : UInt8} (h : slotAt fold l q = some c) (hm : c ∉ before fold l q) : outAt fold l (q + 1) = outAt fold l q ++ [c] := by
  unfold outAt; rw [before, h, List.foldl_append]
  have hn : c ∉ (before fold l q).foldl addB [] := by rw [fold_mem]; simpa using hm
  exact addB_new hn
theorem out_old {fold : Bool} {l : List UInt8} {q : Nat} {c : UInt8} (h : slotAt fold l q = some c) (hm : c ∈ before fold l q) : outAt fold l (q + 1) = outAt fold l q := by
  unfold outAt; rw [before, h, List.foldl_append]
  have hn : c ∈ (before fold l q).foldl addB [] := by rw [fold_mem]; exact .inr hm
  exact addB_old hn
theorem out_length (fold : Bool) (l : List UInt8) : ∀ q, (outAt fold l q).length ≤ q
  | 0 => Nat.le_refl _
  | q + 1 => by
    have ih := out_length fold l q
    cases h : slotAt fold l q with
    | none => rw [out_none h]; omega
    | some c =>
      by_cases hm : c ∈ before fold l q
      · rw [out_old h hm]; omega
      · rw [out_new h hm]; simp; omega

theorem slot_even (fold : Bool) (l : List UInt8) (k : Nat) : slotAt fold l (2 * k) = l[k]? := by
  unfold slotAt
  rw [if_pos (by omega)]
  congr 1; omega
theorem slot_odd (fold : Bool) (l : List UInt8) (k : Nat) : slotAt fold l (2 * k + 1) = if fold then (l[k]?).map other else none := by
  unfold slotAt
  rw [if_neg (by omega)]
  have : (2 * k + 1) / 2 = k := by omega
  rw [this]

theorem before_take (fold : Bool) (l : List UInt8) : ∀ k, k ≤ l.length → before fold l (2 * k) = namedBy fold (l.take k)
  | 0, _ => by simp [before, namedBy]
  | k + 1, h => by
    have ih := before_take fold l k (by omega)
    show before fold l (2 * k + 1 + 1) = _
    rw [before, before, ih, slot_even, slot_odd, List.getElem?_eq_getElem (by omega), List.take_succ_eq_append_getElem (by omega)]
    unfold namedBy
    rw [List.flatMap_append]
    cases fold <;> simp
theorem out_all (fold : Bool) (l : List UInt8) : outAt fold l (2 * l.length) = setL fold l := by
  unfold outAt setL
  rw [before_take fold l l.length (Nat.le_refl _), List.take_length]

/-! ### The run over the units -/
/-- A unit's bracket, characters, and where the next begins. -/
def isBr (M : List UInt8) (i : Nat) : Bool := M.getD i 0 == 0
def close (T : List UInt8) (i : Nat) : Nat := (Lib.indexByte (T.drop (i + 1)) 93).toNat
def charsOf (T M : List UInt8) (i : Nat) : List UInt8 := if isBr M i then (T.drop (i + 1)).take (close T i) else [T.getD i 0]
def nextOf (T M : List UInt8) (i : Nat) : Nat := if isBr M i then i + 1 + close T i + 1 else i + 1

/-- What the two functions gather: the place in the text, the head, the offsets, the sets. -/
structure St where
  at_ : Nat
  head : List UInt8
  offs : List Nat
  sets : List (List UInt8)

def step (T M : List UInt8) (fold : Bool) (s : St) : St :=
  if isBr M s.at_ || decide (1 < (setL fold (charsOf T M s.at_)).length) then
    ⟨nextOf T M s.at_, s.head ++ [(charsOf T M s.at_).headD 0], s.offs ++ [s.head.length], s.sets ++ [setL fold (charsOf T M s.at_)]⟩
  else ⟨nextOf T M s.at_, s.head ++ [(charsOf T M s.at_).headD 0], s.offs, s.sets⟩

def stAt (T M : List UInt8) (fold : Bool) : Nat → St
  | 0 => ⟨0, [], [], []⟩
  | r + 1 => step T M fold (stAt T M fold r)

/-- The unit at i is as the domain asks. -/
def Good (T M : List UInt8) (i : Nat) : Prop :=
  isBr M i = true → T.getD i 0 = 91 ∧ 0 < close T i ∧ 0 ≤ Lib.indexByte (T.drop (i + 1)) 93 ∧ i + 1 + close T i < T.length ∧ M.getD (i + 1 + close T i) 0 = 0
/-- Every unit that is met is so. -/
def Fit (T M : List UInt8) : Prop := ∀ fold r, (∀ r', r' ≤ r → (stAt T M fold r').at_ < T.length) → Good T M (stAt T M fold r).at_

/-- Round r of a run: each earlier round began inside the text. -/
def Rounds (T M : List UInt8) (fold : Bool) (r : Nat) : Prop := ∀ r', r' < r → (stAt T M fold r').at_ < T.length

theorem rounds_same {T M : List UInt8} {fold : Bool} {r r' : Nat} (h : Rounds T M fold r) (h' : Rounds T M fold r') (e : ¬ (stAt T M fold r).at_ < T.length) (e' : ¬ (stAt T M fold r').at_ < T.length) : r = r' := by
  rcases Nat.lt_trichotomy r r' with h1 | h1 | h1
  · exact absurd (h' r h1) e
  · exact h1
  · exact absurd (h r' h1) e'
theorem rounds_more {T M : List UInt8} {fold : Bool} {r : Nat} (h : Rounds T M fold r) (e : (stAt T M fold r).at_ < T.length) : Rounds T M fold (r + 1) := by
  intro r' hr
  by_cases h1 : r' = r
  · subst h1; exact e
  · exact h r' (by omega)

theorem step_at (T M : List UInt8) (fold : Bool) (s : St) : (step T M fold s).at_ = nextOf T M s.at_ := by unfold step; split <;> rfl
theorem at_fold (T M : List UInt8) (f g : Bool) : ∀ r, (stAt T M f r).at_ = (stAt T M g r).at_
  | 0 => rfl
  | r + 1 => by show (step T M f (stAt T M f r)).at_ = (step T M g (stAt T M g r)).at_; rw [step_at, step_at, at_fold T M f g r]
theorem next_gt (T M : List UInt8) (i : Nat) : i < nextOf T M i := by unfold nextOf; split <;> omega
theorem st_bounds (T M : List UInt8) (fold : Bool) : ∀ r, (stAt T M fold r).head.length = r ∧ (stAt T M fold r).offs.length ≤ r ∧ (stAt T M fold r).sets.length = (stAt T M fold r).offs.length ∧ r ≤ (stAt T M fold r).at_
  | 0 => ⟨rfl, Nat.le_refl _, rfl, Nat.le_refl _⟩
  | r + 1 => by
    obtain ⟨h1, h2, h3, h4⟩ := st_bounds T M fold r
    have hg := next_gt T M (stAt T M fold r).at_
    refine ⟨?_, ?_, ?_, ?_⟩
    · show (step T M fold (stAt T M fold r)).head.length = _; unfold step; split <;> simp [h1]
    · show (step T M fold (stAt T M fold r)).offs.length ≤ _; unfold step; split <;> simp <;> omega
    · show (step T M fold (stAt T M fold r)).sets.length = (step T M fold (stAt T M fold r)).offs.length; unfold step; split <;> simp [h3]
    · show _ ≤ (step T M fold (stAt T M fold r)).at_; rw [step_at]; omega

end Go.Proofs.Qxb6601350a
