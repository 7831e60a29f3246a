/-
  SEAT b6601350a: THE CLOSURE OF namePlaces: one more byte, if it is not there yet. And what is told of rows and worlds.
-/
import Derived.Test.Qxb6601350aMid
namespace Go.Proofs.Qxb6601350a
open Go.RowKit

theorem Try.info5 : (Try.prog.info? 5).map (fun i => (i.zero, i.size, i.bytes)) = some (some (.int .u8 0), 1, 1) := by kernel_rfl

/-- Below 'base', but for block B, the world is as it was. -/
structure Kept (B base : Nat) (w w' : World) : Prop where
  os : w'.os = w.os
  tape : w'.tape = w.tape
  output : w'.output = w.output
  size : w.heap.size ≤ w'.heap.size
  block : ∀ k, k < base → k ≠ B → w'.heap[k]? = w.heap[k]?
theorem Kept.refl (B base : Nat) (w : World) : Kept B base w w := ⟨rfl, rfl, rfl, Nat.le_refl _, fun _ _ _ => rfl⟩
theorem Kept.trans {B base : Nat} {a b c : World} (h : Kept B base a b) (k : Kept B base b c) : Kept B base a c :=
  ⟨k.os.trans h.os, k.tape.trans h.tape, k.output.trans h.output, Nat.le_trans h.size k.size, fun i h1 h2 => (k.block i h1 h2).trans (h.block i h1 h2)⟩
theorem Kept.below {B base : Nat} {w w' : World} (h : Kept B base w w') (hB : B < base) : Below B w w' := ⟨h.os, h.tape, h.output, h.size, fun k hk => h.block k (by omega) (by omega)⟩
theorem Kept.setCell {B base : Nat} {a w : World} (h : Kept B base a w) (j : Nat) (u : Value) : Kept B base a (w.setCell ⟨B, j, none⟩ u) :=
  h.trans ⟨rfl, rfl, rfl, by simp [World.setCell], fun k _ h2 => Below.heap_setCell _ _ _ _ h2⟩
theorem kept_of_below {B base : Nat} {w w' : World} (h : Below base w w') : Kept B base w w' := ⟨h.os, h.tape, h.output, h.size, fun k hk _ => h.block k hk⟩

/-- Block B is a variable of type 32 ([]byte) that owns the bytes 'each', in blocks from 'base' on. -/
def Each (B base : Nat) (each : List UInt8) (w : World) : Prop := ∃ v, w.heap[B]? = some (.cells #[v] 32 (0, 0)) ∧ w.ownsRow base 5 1 v each.length (each.map byteV)

theorem own_len {w : World} {e base size g cap a b : Nat} {xs ys : List Value} (h : w.ownsRow base e size (.slice (some ⟨g, 0, none⟩) a cap) a xs) (e1 : a = b) (e2 : xs = ys) : w.ownsRow base e size (.slice (some ⟨g, 0, none⟩) b cap) b ys := by
  subst e1; subst e2; exact h
theorem byteV_one (acc : List UInt8) (a : UInt8) : acc.map byteV ++ [byteV a] = (acc ++ [a]).map byteV := by simp
theorem owns_ne {w : World} {base e size n : Nat} {v : Value} {xs : List Value} (h : w.ownsRow base e size v n xs) {B : Nat} (hB : B < base) : v.ownBlock ≠ some B := by
  intro e1
  have := h.lt B e1
  omega
/-- What is owned stays owned while only later blocks turn. -/
theorem own_below {w w' : World} {base e size n : Nat} {v : Value} {xs : List Value} (h : w.ownsRow base e size v n xs) (hb : Below w.heap.size w w') : w'.ownsRow base e size v n xs := by
  obtain ⟨h1, h2⟩ := h
  refine ⟨h1, ?_⟩
  rcases h2 with h2 | ⟨g, cap, cur, hv, hg, hh, r⟩
  · exact Or.inl h2
  · exact Or.inr ⟨g, cap, cur, hv, hg, by rw [hb.block g (lt_of_block hh)]; exact hh, r⟩
theorem own_form {w : World} {base e size n : Nat} {v : Value} {xs : List Value} (h : w.ownsRow base e size v n xs) : ∃ ao cap, v = .slice ao n cap := by
  rcases h.2 with ⟨hv, hn⟩ | ⟨g, cap, cur, hv, _⟩
  · exact ⟨none, 0, by rw [hv, hn]⟩
  · exact ⟨_, _, hv⟩
theorem own_types {w : World} {b1 e1 s1 n1 b2 e2 s2 n2 : Nat} {v1 v2 : Value} {xs1 xs2 : List Value} (h1 : w.ownsRow b1 e1 s1 v1 n1 xs1) (h2 : w.ownsRow b2 e2 s2 v2 n2 xs2) (hne : e1 ≠ e2) : v1.ownBlock = none ∨ v1.ownBlock ≠ v2.ownBlock := by
  rcases h1.2 with ⟨hv, _⟩ | ⟨g, cap, cur, hv, _, hh, _⟩
  · left; rw [hv]; rfl
  · right
    rcases h2.2 with ⟨hv2, _⟩ | ⟨g2, cap2, cur2, hv2, _, hh2, _⟩
    · rw [hv, hv2]; simp [Value.ownBlock]
    · rw [hv, hv2]
      simp only [Value.ownBlock, ne_eq, Option.some.injEq]
      intro e
      subst e
      rw [hh] at hh2
      simp at hh2
      exact hne hh2.2

set_option maxHeartbeats 1000000 in
theorem add_any (B base : Nat) (each : List UInt8) (c : UInt8) (w : World) (hl : each.length ≤ 16777215) (hBb : B < base) (hbs : base ≤ w.heap.size) (hE : Each B base each w) :
    Calls Try.prog 37 #[.int .u8 (c.toNat : Int), .pointer (some ⟨B, 0, none⟩)] w fun e w' => e = .returned (.tuple #[]) ∧ Each B base (addB each c) w' ∧ Kept B base w w' := by
  obtain ⟨i0, hi, hz0, hz1, hz2⟩ := info_parts Try.info5
  obtain ⟨v, hB, hown⟩ := hE
  have hcell := cell_of_one hB
  have hBlt := lt_of_block hB
  cases hc : each.contains c with
  | true =>
    have HA : Hid (addB each c = each) := addB_old (by simpa using hc)
    have HC : Hid (each.contains c = true) := hc
    have HE : Hid (Each B base each w) := ⟨v, hB, hown⟩
    clear hc hB
    go_enter Try.func37, Try.ntmps37
    go_wp2_with (go_at_call 38; refine (contains_own v base each c _ (by omega) hown true HC.out).mono ?_; rintro e w' ⟨rfl, rfl⟩)
    go_end0
    exact ⟨rfl, by rw [HA.out]; exact HE.out, Kept.refl _ _ _⟩
  | false =>
    have HA : Hid (addB each c = each ++ [c]) := addB_new (by simpa using hc)
    have HC : Hid (each.contains c = false) := hc
    have HB : Hid (w.heap[B]? = some (.cells #[v] 32 (0, 0))) := hB
    clear hc hB
    go_enter Try.func37, Try.ntmps37
    go_wp2_with (first | (go_at_call 38; refine (contains_own v base each c _ (by omega) hown false HC.out).mono ?_; rintro e w' ⟨rfl, rfl⟩) | (at_builtin; refine wpList_append_lies _ rfl _ _ 32 rfl base 5 i0 (.int .u8 0) 1 1 Try.underlying32 hi hz0 hz1 hz2 rfl (by decide) _ _ _ rfl (hown.alloc _) ⟨w.heap.size, 0, none⟩ 1 1 [byteV c] rfl rfl ?c1 ?c2 (by omega) ?c3 ?c4 ?c5 _ rfl ?_))
    case c1 =>
      intro j u hj
      match j, hj with
      | 0, hj => simp at hj; subst hj; simp [Addr.add, byteV]
    case c2 => intro u hu; simp at hu; subst hu; rfl
    case c3 => unfold maxLen; omega
    case c4 => omega
    case c5 => simp; omega
    intro g' cap' w1 hown' hgrow hat hlt'
    have hne : v.ownBlock ≠ some B := owns_ne hown hBb
    have hB1 : w1.heap[B]? = some (.cells #[v] 32 (0, 0)) := by
      rw [hgrow.block B (by simp; omega) (fun e => hne e.symm), Below.heap_alloc _ _ _ hBlt]
      exact HB.out
    have hO := own_len hown' (show each.length + 1 = (each ++ [c]).length by simp) (byteV_one each c)
    have hbel : Below base w w1 := ((Below.refl base w).alloc hbs _).grown hgrow (by simp; omega) (fun k h => (hown.lt k h).1)
    have hc1 := cell_of_one hB1
    have hf1 := free_of_one hB1
    have HX : Hid (w1.heap[B]? = some (.cells #[v] 32 (0, 0)) ∧ w1.ownsRow base 5 1 (.slice (some ⟨g', 0, none⟩) (each ++ [c]).length cap') (each ++ [c]).length ((each ++ [c]).map byteV) ∧ Below base w w1) := ⟨hB1, hO, hbel⟩
    clear hown hown' hgrow hat hlt' hO hbel hB1 hcell hne
    go_wp2
    go_end0
    have hg : base ≤ g' := by
      have := HX.out.2.1.lt g' rfl
      omega
    refine ⟨rfl, ?_, (kept_of_below HX.out.2.2).setCell 0 _⟩
    rw [HA.out]
    refine ⟨_, one_setCell HX.out.1, ?_⟩
    have := ownsRow_setCell_other (a := ⟨B, 0, none⟩) HX.out.2.1 (by simp [Value.ownBlock]; omega) (.slice (some ⟨g', 0, none⟩) (each.length + 1) cap')
    have e : (each ++ [c]).length = each.length + 1 := by simp
    rw [e] at this ⊢
    exact this

/-- What '[]byte(s)' lays, told by what it is good for. -/
theorem bytes_laid (s : ByteArray) (w : World) : ∃ cap w1, (convert 9 32 (.string s)).run Try.prog w = .ok (.slice (some ⟨w.heap.size, 0, none⟩) s.size cap) w1 ∧
    (∀ j (h : j < s.size), w1.cell? ⟨w.heap.size, j, none⟩ = some (.int .u8 (s[j].toNat : Int))) ∧ Below w.heap.size w w1 ∧ w1.heap.size = w.heap.size + 1 := by
  refine ⟨_, _, run_bytes_of_string (P := Try.prog) w 9 32 5 s Try.underlying9 Try.underlying32 Try.underlying5, ?_, ?_, ?_⟩
  · intro j h
    have := World.cell?_alloc_mark w.drew (bytesRow s (grownCap w s.size 0 5)) 5 ((bytesRow s (grownCap w s.size 0 5)).size, (bytesRow s (grownCap w s.size 0 5)).size + 1) j
    exact this.trans (bytesRow_at s _ j h)
  · exact ((Below.refl _ _).drew).alloc (Nat.le_refl _) _
  · show (w.heap.push _).size = _
    simp
end Go.Proofs.Qxb6601350a
