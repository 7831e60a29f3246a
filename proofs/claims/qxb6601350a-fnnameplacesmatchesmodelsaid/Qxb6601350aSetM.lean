/-
  SEAT b6601350a: THE WALK OF placeSetModel (the one text, fold true and fold false, by program).
-/
import Derived.Test.Qxb6601350aPl0
namespace Go.Proofs.Qxb6601350a
open Go.RowKit

/-- The zero of [256]int. -/
def z256 : Array Value := Array.replicate 256 (.int .i64 0)
theorem zero60 (w : World) : Sem.run Try.prog (zeroValue 60) w = .ok (.agg z256) w := by kernel_rfl

/-- Block B holds the table f, a number a byte, and may be written. -/
def Tab (B : Nat) (f : UInt8 → Int) (w : World) : Prop := ∀ c : UInt8, w.cell? ⟨B, c.toNat, none⟩ = some (.int .i64 (f c)) ∧ w.frozen? ⟨B, c.toNat, none⟩ = false

theorem tab_start (w : World) : Tab w.heap.size (fun _ => 0) (w.alloc (.cells z256 60)) := by
  intro c
  have hb := heap_alloc_new w (.cells z256 60)
  have hc := c.toNat_lt
  constructor
  · rw [cell_of_row _ _ _ _ _ _ hb]
    unfold z256
    rw [Array.getElem?_replicate, if_pos (by omega)]
  · exact frozen_of_row _ _ _ _ _ hb
theorem tab_set {B : Nat} {f : UInt8 → Int} {w : World} (h : Tab B f w) (c : UInt8) (v : Int) : Tab B (fun x => if x = c then v else f x) (w.setCell ⟨B, c.toNat, none⟩ (.int .i64 v)) := by
  intro x
  constructor
  · show _ = some (Value.int .i64 (if x = c then v else f x))
    by_cases e : x = c
    · subst e
      rw [if_pos rfl]
      exact World.cell?_setCell_same _ _ _ (h x).1
    · rw [if_neg e]
      have hne : (⟨B, x.toNat, none⟩ : Addr) ≠ ⟨B, c.toNat, none⟩ := by
        intro e2
        simp only [Addr.mk.injEq, and_true, true_and] at e2
        exact e (UInt8.toNat_inj.1 e2)
      exact (World.cell?_setCell_other _ _ _ _ (fun e2 => hne (by first | exact e2 | exact e2.symm))).trans (h x).1
  · rw [World.frozen?_setCell]; exact (h x).2
theorem tab_congr {B : Nat} {f g : UInt8 → Int} {w : World} (h : Tab B f w) (e : ∀ c, f c = g c) : Tab B g w := fun c => by rw [← e c]; exact h c
theorem tab_block {B : Nat} {f : UInt8 → Int} {w w' : World} (h : Tab B f w) (e : w'.heap[B]? = w.heap[B]?) : Tab B f w' := fun c => ⟨(World.cell?_of_block e).trans (h c).1, (World.frozen?_of_block e).trans (h c).2⟩

theorem lt_of_cell {w : World} {B j : Nat} {v : Value} (h : w.cell? ⟨B, j, none⟩ = some v) : B < w.heap.size := by
  rcases Nat.lt_or_ge B w.heap.size with h' | h'
  · exact h'
  · exfalso
    have hn : w.heap[B]? = none := Array.getElem?_eq_none h'
    simp [World.cell?, hn] at h
theorem byte_lt (c : UInt8) : (c.toNat : Int) < 256 := by have := c.toNat_lt; omega
theorem get_at (s : ByteArray) (k : Nat) (h : k < s.size) : s.data.toList[k]? = some s[k] := by
  have hl : k < s.data.toList.length := by simpa using h
  rw [List.getElem?_eq_getElem hl]; rfl

/-! ### The table's steps -/
theorem tbl_succ (fold : Bool) (l : List UInt8) (b : UInt8) (m : Nat) : tbl fold l b (m + 1) = if tbl fold l b m < 0 ∧ slotAt fold l m = some b then (m : Int) else tbl fold l b m := rfl
theorem tbl_even (fold : Bool) (l : List UInt8) (c : UInt8) (k : Nat) {x : UInt8} (hx : l[k]? = some x) (h : tbl fold l x (2 * k) < 0) : (if c = x then 2 * (k : Int) else tbl fold l c (2 * k)) = tbl fold l c (2 * k + 1) := by
  rw [tbl_succ fold l c (2 * k), slot_even, hx]
  by_cases e : c = x
  · subst e; rw [if_pos rfl, if_pos ⟨h, rfl⟩]; omega
  · rw [if_neg e, if_neg (fun h' => e (Option.some.inj h'.2).symm)]
theorem tbl_even_no (fold : Bool) (l : List UInt8) (c : UInt8) (k : Nat) {x : UInt8} (hx : l[k]? = some x) (h : ¬ tbl fold l x (2 * k) < 0) : tbl fold l c (2 * k) = tbl fold l c (2 * k + 1) := by
  rw [tbl_succ fold l c (2 * k), slot_even, hx]
  rw [if_neg (fun h' => h (by rw [Option.some.inj h'.2]; exact h'.1))]
theorem tbl_odd (l : List UInt8) (c : UInt8) (k : Nat) {x : UInt8} (hx : l[k]? = some x) (h : tbl true l (other x) (2 * k + 1) < 0) : (if c = other x then 2 * (k : Int) + 1 else tbl true l c (2 * k + 1)) = tbl true l c (2 * (k + 1)) := by
  show _ = tbl true l c (2 * k + 1 + 1)
  rw [tbl_succ true l c (2 * k + 1), slot_odd, hx]
  by_cases e : c = other x
  · subst e; rw [if_pos rfl, if_pos ⟨h, rfl⟩]; omega
  · rw [if_neg e, if_neg (fun h' => e (Option.some.inj h'.2).symm)]
theorem tbl_odd_no (l : List UInt8) (c : UInt8) (k : Nat) {x : UInt8} (hx : l[k]? = some x) (h : ¬ tbl true l (other x) (2 * k + 1) < 0) : tbl true l c (2 * k + 1) = tbl true l c (2 * (k + 1)) := by
  show _ = tbl true l c (2 * k + 1 + 1)
  rw [tbl_succ true l c (2 * k + 1), slot_odd, hx]
  have : ¬ (tbl true l c (2 * k + 1) < 0 ∧ (if true = true then Option.map other (some x) else none) = some c) := by
    rintro ⟨h1, h2⟩
    have e : other x = c := Option.some.inj h2
    rw [← e] at h1
    exact h h1
  rw [if_neg this]
theorem tbl_odd_off (l : List UInt8) (c : UInt8) (k : Nat) : tbl false l c (2 * k + 1) = tbl false l c (2 * (k + 1)) := by
  show _ = tbl false l c (2 * k + 1 + 1)
  rw [tbl_succ false l c (2 * k + 1), slot_odd]
  simp

set_option maxHeartbeats 8000000 in
set_option maxRecDepth 100000 in
theorem placeSet_true (s : ByteArray) (w : World) (hs : s.size ≤ 524288) (h0 : 0 < s.size) :
    Calls Try.prog 33 #[.string s, .bool true] w fun e w' => e = .returned (.string ⟨(setL true s.data.toList).toArray⟩) ∧ Below w.heap.size w w' := by
  obtain ⟨i0, hi, hz0, hz1, hz2⟩ := info_parts Try.info5
  have hz60 := zero60
  go_enter Try.func33, Try.ntmps33
  go_wp2
  clear hz60
  go_loopw [6] (fun i wr => ∃ b : Nat, b ≤ 256 ∧ i = .int .i64 b ∧ Tab w.heap.size (fun c => if c.toNat < b then -1 else 0) wr ∧ Below w.heap.size w wr ∧ w.heap.size < wr.heap.size) (fun i _ => 256 - (intOf i).toNat)
  case atStart => exact ⟨0, Nat.zero_le _, rfl, tab_congr (tab_start w) (fun c => by simp), (Below.refl _ _).alloc (Nat.le_refl _) _, by simp⟩
  case round =>
    obtain ⟨b, hb, rfl, hT, hBl, hBs⟩ := hrel
    have HB : Hid (Below w.heap.size w wr) := hBl
    clear hBl
    by_cases hlt : b < 256
    · obtain ⟨c, hc⟩ : ∃ c : UInt8, c.toNat = b := ⟨b.toUInt8, by simp only [Nat.toUInt8, UInt8.toNat_ofNat']; omega⟩
      have hc1 := (hT c).1
      have hf1 := (hT c).2
      rw [hc] at hc1 hf1
      simp only at hc1
      have HT : Hid (Tab w.heap.size (fun x => if x.toNat < b + 1 then -1 else 0) (wr.setCell ⟨w.heap.size, b, none⟩ (.int .i64 (-1)))) := by
        show Tab _ _ _
        have := tab_set hT c (-1)
        rw [hc] at this
        refine tab_congr this (fun x => ?_)
        by_cases e : x = c
        · subst e; rw [if_pos rfl, if_pos (by omega)]
        · rw [if_neg e]
          have : x.toNat ≠ b := fun e2 => e (UInt8.toNat_inj.1 (by omega))
          by_cases h : x.toNat < b
          · rw [if_pos h, if_pos (by omega)]
          · rw [if_neg h, if_neg (by omega)]
      have HBB : Hid (Below w.heap.size w (wr.setCell ⟨w.heap.size, b, none⟩ (.int .i64 (-1)))) := HB.out.setCell (Nat.le_refl _) _
      clear hT hc
      go_wp2
      go_roundw
      case rel => exact ⟨b + 1, by omega, by go_num, HT.out, HBB.out, by simpa [World.setCell] using hBs⟩
      case measure => simp [intOf]; omega
    · have hT0 : Tab w.heap.size (fun c => tbl true s.data.toList c 0) wr := tab_congr hT (fun c => by have := c.toNat_lt; rw [if_pos (by omega)]; rfl)
      have HT0 : Hid (Tab w.heap.size (fun c => tbl true s.data.toList c 0) wr) := hT0
      clear hT hT0
      go_wp2
      rename World => wz
      go_loopw [7] (fun i wr => ∃ k : Nat, k ≤ s.size ∧ i = .int .i64 k ∧ Tab w.heap.size (fun c => tbl true s.data.toList c (2 * k)) wr ∧ Below w.heap.size w wr) (fun i _ => s.size - (intOf i).toNat)
      case atStart => exact ⟨0, Nat.zero_le _, rfl, HT0.out, HB.out⟩
      case round =>
        clear HT0 HB
        obtain ⟨k, hk, rfl, hT, hBl⟩ := hrel
        have HB : Hid (Below w.heap.size w wr) := hBl
        clear hBl
        by_cases hlt2 : k < s.size
        · have hlt' : s.data.toList[k]? = some s[k] := get_at s k hlt2
          have HL : Hid (s.data.toList[k]? = some s[k]) := hlt'
          clear hlt'
          have hlt' := HL.out
          have y1 := byte_lt s[k]
          have y2 := byte_lt (other s[k])
          obtain ⟨t1, ht1⟩ : ∃ t, tbl true s.data.toList s[k] (2 * k) = t := ⟨_, rfl⟩
          have hc1 : wr.cell? ⟨w.heap.size, s[k].toNat, none⟩ = some (.int .i64 (tbl true s.data.toList s[k] (2 * k))) := (hT s[k]).1
          have hf1 := (hT s[k]).2
          rw [ht1] at hc1
          obtain ⟨t2, ht2⟩ : ∃ t, tbl true s.data.toList (other s[k]) (2 * k + 1) = t := ⟨_, rfl⟩
          have HT1 : Hid (tbl true s.data.toList s[k] (2 * k) = t1) := ht1
          have HT2 : Hid (tbl true s.data.toList (other s[k]) (2 * k + 1) = t2) := ht2
          by_cases h1 : t1 < 0
          · have hT1 : Tab w.heap.size (fun c => tbl true s.data.toList c (2 * k + 1)) (wr.setCell ⟨w.heap.size, s[k].toNat, none⟩ (.int .i64 (2 * (k : Int)))) :=
              tab_congr (tab_set hT s[k] (2 * (k : Int))) (fun c => tbl_even true s.data.toList c k hlt' (by rw [ht1]; exact h1))
            have hc2 : (wr.setCell ⟨w.heap.size, s[k].toNat, none⟩ (.int .i64 (2 * (k : Int)))).cell? ⟨w.heap.size, (other s[k]).toNat, none⟩ = some (.int .i64 (tbl true s.data.toList (other s[k]) (2 * k + 1))) := (hT1 (other s[k])).1
            have hf2 := (hT1 (other s[k])).2
            rw [ht2] at hc2
            by_cases h2 : t2 < 0
            · have HT : Hid (Tab w.heap.size (fun c => tbl true s.data.toList c (2 * (k + 1))) ((wr.setCell ⟨w.heap.size, s[k].toNat, none⟩ (.int .i64 (2 * (k : Int)))).setCell ⟨w.heap.size, (other s[k]).toNat, none⟩ (.int .i64 (2 * (k : Int) + 1)))) :=
                tab_congr (tab_set hT1 (other s[k]) (2 * (k : Int) + 1)) (fun c => tbl_odd s.data.toList c k hlt' (by rw [ht2]; exact h2))
              have HBB : Hid (Below w.heap.size w ((wr.setCell ⟨w.heap.size, s[k].toNat, none⟩ (.int .i64 (2 * (k : Int)))).setCell ⟨w.heap.size, (other s[k]).toNat, none⟩ (.int .i64 (2 * (k : Int) + 1)))) := (HB.out.setCell (Nat.le_refl _) _).setCell (Nat.le_refl _) _
              clear hT hT1 ht1 ht2
              go_wp2_with (go_at_call 26; refine (otherLetter_at _ _).mono ?_; rintro e w' ⟨rfl, rfl⟩)
              go_roundw
              case rel => exact ⟨k + 1, by omega, by go_num, HT.out, HBB.out⟩
              case measure => simp [intOf]; omega
            · have HT : Hid (Tab w.heap.size (fun c => tbl true s.data.toList c (2 * (k + 1))) (wr.setCell ⟨w.heap.size, s[k].toNat, none⟩ (.int .i64 (2 * (k : Int))))) :=
                tab_congr hT1 (fun c => tbl_odd_no s.data.toList c k hlt' (by rw [ht2]; exact h2))
              have HBB : Hid (Below w.heap.size w (wr.setCell ⟨w.heap.size, s[k].toNat, none⟩ (.int .i64 (2 * (k : Int))))) := HB.out.setCell (Nat.le_refl _) _
              clear hT hT1 ht1 ht2
              go_wp2_with (go_at_call 26; refine (otherLetter_at _ _).mono ?_; rintro e w' ⟨rfl, rfl⟩)
              go_roundw
              case rel => exact ⟨k + 1, by omega, by go_num, HT.out, HBB.out⟩
              case measure => simp [intOf]; omega
          · have hT1 : Tab w.heap.size (fun c => tbl true s.data.toList c (2 * k + 1)) wr := tab_congr hT (fun c => tbl_even_no true s.data.toList c k hlt' (by rw [ht1]; exact h1))
            have hc2 : wr.cell? ⟨w.heap.size, (other s[k]).toNat, none⟩ = some (.int .i64 (tbl true s.data.toList (other s[k]) (2 * k + 1))) := (hT1 (other s[k])).1
            have hf2 := (hT1 (other s[k])).2
            rw [ht2] at hc2
            by_cases h2 : t2 < 0
            · have HT : Hid (Tab w.heap.size (fun c => tbl true s.data.toList c (2 * (k + 1))) (wr.setCell ⟨w.heap.size, (other s[k]).toNat, none⟩ (.int .i64 (2 * (k : Int) + 1)))) :=
                tab_congr (tab_set hT1 (other s[k]) (2 * (k : Int) + 1)) (fun c => tbl_odd s.data.toList c k hlt' (by rw [ht2]; exact h2))
              have HBB : Hid (Below w.heap.size w (wr.setCell ⟨w.heap.size, (other s[k]).toNat, none⟩ (.int .i64 (2 * (k : Int) + 1)))) := HB.out.setCell (Nat.le_refl _) _
              clear hT hT1 ht1 ht2
              go_wp2_with (go_at_call 26; refine (otherLetter_at _ _).mono ?_; rintro e w' ⟨rfl, rfl⟩)
              go_roundw
              case rel => exact ⟨k + 1, by omega, by go_num, HT.out, HBB.out⟩
              case measure => simp [intOf]; omega
            · have HT : Hid (Tab w.heap.size (fun c => tbl true s.data.toList c (2 * (k + 1))) wr) := tab_congr hT1 (fun c => tbl_odd_no s.data.toList c k hlt' (by rw [ht2]; exact h2))
              clear hT hT1 ht1 ht2
              go_wp2_with (go_at_call 26; refine (otherLetter_at _ _).mono ?_; rintro e w' ⟨rfl, rfl⟩)
              go_roundw
              case rel => exact ⟨k + 1, by omega, by go_num, HT.out, HB.out⟩
              case measure => simp [intOf]; omega
        · have hkn : k = s.size := by omega
          subst hkn
          have HT : Hid (Tab w.heap.size (fun c => tbl true s.data.toList c (2 * s.size)) wr) := hT
          clear hT
          have hBs2 : w.heap.size < wr.heap.size := lt_of_cell (HT.out 0).1
          go_wp2
          rename World => wy
          go_loopw [10, 11] (fun v i wr => ∃ (q : Nat) (ao : Option Addr) (co : Nat), q ≤ 2 * s.size ∧ i = .int .i64 q ∧ v = .slice ao (outAt true s.data.toList q).length co ∧ wr.ownsRow (w.heap.size + 1) 5 1 (.slice ao (outAt true s.data.toList q).length co) (outAt true s.data.toList q).length ((outAt true s.data.toList q).map byteV) ∧ Tab w.heap.size (fun c => tbl true s.data.toList c (2 * s.size)) wr ∧ Below w.heap.size w wr)
            (fun _ i _ => 2 * s.size - (intOf i).toNat)
          case atStart => exact ⟨0, none, 0, Nat.zero_le _, rfl, rfl, World.ownsRow_nil _ _ _ _, HT.out, HB.out⟩
          case round =>
            clear HT HB hBs2
            obtain ⟨q, ao, co, hq, rfl, rfl, how, hT, hBl⟩ := hrel
            have HB : Hid (Below w.heap.size w wr) := hBl
            have HT : Hid (Tab w.heap.size (fun c => tbl true s.data.toList c (2 * s.size)) wr) := hT
            have HOW : Hid (wr.ownsRow (w.heap.size + 1) 5 1 (.slice ao (outAt true s.data.toList q).length co) (outAt true s.data.toList q).length ((outAt true s.data.toList q).map byteV)) := how
            have hBs2 : w.heap.size < wr.heap.size := lt_of_cell (HT.out 0).1
            have hol := out_length true s.data.toList q
            clear hBl hT how
            by_cases hqlt : q < 2 * s.size
            · obtain ⟨k, hk⟩ : ∃ k, k = q / 2 := ⟨_, rfl⟩
              have hk2 : k < s.size := by omega
              have y1 := byte_lt s[k]
              have y2 := byte_lt (other s[k])
              have e1 : (q : Int) / 2 = (k : Int) := by omega
              by_cases hpar : q % 2 = 0
              · have hqk : Hid (q = 2 * k) := by show _ = _; omega
                have e2 : (q : Int) % 2 = 0 := by omega
                clear hk hpar
                have hsl : slotAt true s.data.toList q = some s[k] := by
                  rw [hqk.out, slot_even, get_at s k hk2]
                have hq : tbl true s.data.toList s[k] (2 * s.size) = (q : Int) ↔ s[k] ∉ before true s.data.toList q := tbl_hit true s.data.toList q (2 * s.size) s[k] (by omega) hsl
                have hc1 : wr.cell? ⟨w.heap.size, s[k].toNat, none⟩ = some (.int .i64 (tbl true s.data.toList s[k] (2 * s.size))) := (HT.out s[k]).1
                by_cases hmem : s[k] ∈ before true s.data.toList q
                · have HO : Hid (outAt true s.data.toList (q + 1) = outAt true s.data.toList q) := out_old hsl hmem
                  have tq : (tbl true s.data.toList s[k] (2 * s.size) == (q : Int)) = false := by
                    rw [beq_eq_false_iff_ne]; intro e; exact hq.1 e hmem
                  clear hsl hq hmem
                  go_wp2
                  go_roundw
                  case rel => exact ⟨q + 1, ao, co, by omega, by go_num, by rw [HO.out], by rw [HO.out]; exact HOW.out, HT.out, HB.out⟩
                  case measure => simp [intOf]; omega
                · have HO : Hid (outAt true s.data.toList (q + 1) = outAt true s.data.toList q ++ [s[k]]) := out_new hsl hmem
                  have tq : (tbl true s.data.toList s[k] (2 * s.size) == (q : Int)) = true := by rw [beq_iff_eq]; exact hq.2 hmem
                  have hown := HOW.out
                  clear hsl hq hmem
                  go_wp2_with ((at_builtin; refine wpList_append_lies _ rfl _ _ 32 rfl (w.heap.size + 1) 5 i0 (.int .u8 0) 1 1 Try.underlying32 hi hz0 hz1 hz2 rfl (by decide) _ _ _ rfl (hown.alloc _) ⟨wr.heap.size, 0, none⟩ 1 1 [byteV s[k]] rfl rfl (cell_one_new _ _ _) (one_ok s[k]) (by omega) (max_ok (by omega)) (by omega) (by first | omega | (simp; omega)) _ rfl ?_))
                  intro g' cap' w1 hown' hgrow hat hlt'
                  have hne : (Value.slice ao (outAt true s.data.toList q).length co).ownBlock ≠ some w.heap.size := owns_ne hown (by omega)
                  have eB : w1.heap[w.heap.size]? = wr.heap[w.heap.size]? := by
                    rw [hgrow.block w.heap.size (by simp; omega) (fun e => hne e.symm), Below.heap_alloc _ _ _ (by omega)]
                  have HT1 : Hid (Tab w.heap.size (fun c => tbl true s.data.toList c (2 * s.size)) w1) := tab_block HT.out eB
                  have HBB : Hid (Below w.heap.size w w1) := (HB.out.alloc (by omega) _).grown hgrow (by simp; omega) (fun k h => by have := (hown.lt k h).1; omega)
                  have HOW1 : Hid (w1.ownsRow (w.heap.size + 1) 5 1 (.slice (some ⟨g', 0, none⟩) (outAt true s.data.toList (q + 1)).length cap') (outAt true s.data.toList (q + 1)).length ((outAt true s.data.toList (q + 1)).map byteV)) := by
                    show World.ownsRow _ _ _ _ _ _ _
                    rw [HO.out]
                    exact own_len hown' (by simp) (byteV_one _ _)
                  have hsz1 := hgrow.size
                  simp only [World.size_alloc] at hsz1
                  have HLN : Hid ((outAt true s.data.toList (q + 1)).length = (outAt true s.data.toList q).length + 1) := by show _ = _; rw [HO.out]; simp
                  clear hown hown' hgrow hat hlt' hne eB
                  go_wp2
                  go_roundw
                  case rel => exact ⟨q + 1, some ⟨g', 0, none⟩, cap', by omega, by go_num, by rw [HLN.out], HOW1.out, HT1.out, HBB.out⟩
                  case measure => simp [intOf]; omega
              · have hqk : Hid (q = 2 * k + 1) := by show _ = _; omega
                have e2 : (q : Int) % 2 = 1 := by omega
                clear hk hpar
                have hsl : slotAt true s.data.toList q = some (other s[k]) := by
                  rw [hqk.out, slot_odd, get_at s k hk2]; rfl
                have hq : tbl true s.data.toList (other s[k]) (2 * s.size) = (q : Int) ↔ (other s[k]) ∉ before true s.data.toList q := tbl_hit true s.data.toList q (2 * s.size) (other s[k]) (by omega) hsl
                have hc1 : wr.cell? ⟨w.heap.size, (other s[k]).toNat, none⟩ = some (.int .i64 (tbl true s.data.toList (other s[k]) (2 * s.size))) := (HT.out (other s[k])).1
                by_cases hmem : (other s[k]) ∈ before true s.data.toList q
                · have HO : Hid (outAt true s.data.toList (q + 1) = outAt true s.data.toList q) := out_old hsl hmem
                  have tq : (tbl true s.data.toList (other s[k]) (2 * s.size) == (q : Int)) = false := by
                    rw [beq_eq_false_iff_ne]; intro e; exact hq.1 e hmem
                  clear hsl hq hmem
                  go_wp2_with (go_at_call 26; refine (otherLetter_at _ _).mono ?_; rintro e w' ⟨rfl, rfl⟩)
                  go_roundw
                  case rel => exact ⟨q + 1, ao, co, by omega, by go_num, by rw [HO.out], by rw [HO.out]; exact HOW.out, HT.out, HB.out⟩
                  case measure => simp [intOf]; omega
                · have HO : Hid (outAt true s.data.toList (q + 1) = outAt true s.data.toList q ++ [(other s[k])]) := out_new hsl hmem
                  have tq : (tbl true s.data.toList (other s[k]) (2 * s.size) == (q : Int)) = true := by rw [beq_iff_eq]; exact hq.2 hmem
                  have hown := HOW.out
                  clear hsl hq hmem
                  go_wp2_with (first | (go_at_call 26; refine (otherLetter_at _ _).mono ?_; rintro e w' ⟨rfl, rfl⟩) | (at_builtin; refine wpList_append_lies _ rfl _ _ 32 rfl (w.heap.size + 1) 5 i0 (.int .u8 0) 1 1 Try.underlying32 hi hz0 hz1 hz2 rfl (by decide) _ _ _ rfl (hown.alloc _) ⟨wr.heap.size, 0, none⟩ 1 1 [byteV (other s[k])] rfl rfl (cell_one_new _ _ _) (one_ok (other s[k])) (by omega) (max_ok (by omega)) (by omega) (by first | omega | (simp; omega)) _ rfl ?_))
                  intro g' cap' w1 hown' hgrow hat hlt'
                  have hne : (Value.slice ao (outAt true s.data.toList q).length co).ownBlock ≠ some w.heap.size := owns_ne hown (by omega)
                  have eB : w1.heap[w.heap.size]? = wr.heap[w.heap.size]? := by
                    rw [hgrow.block w.heap.size (by simp; omega) (fun e => hne e.symm), Below.heap_alloc _ _ _ (by omega)]
                  have HT1 : Hid (Tab w.heap.size (fun c => tbl true s.data.toList c (2 * s.size)) w1) := tab_block HT.out eB
                  have HBB : Hid (Below w.heap.size w w1) := (HB.out.alloc (by omega) _).grown hgrow (by simp; omega) (fun k h => by have := (hown.lt k h).1; omega)
                  have HOW1 : Hid (w1.ownsRow (w.heap.size + 1) 5 1 (.slice (some ⟨g', 0, none⟩) (outAt true s.data.toList (q + 1)).length cap') (outAt true s.data.toList (q + 1)).length ((outAt true s.data.toList (q + 1)).map byteV)) := by
                    show World.ownsRow _ _ _ _ _ _ _
                    rw [HO.out]
                    exact own_len hown' (by simp) (byteV_one _ _)
                  have hsz1 := hgrow.size
                  simp only [World.size_alloc] at hsz1
                  have HLN : Hid ((outAt true s.data.toList (q + 1)).length = (outAt true s.data.toList q).length + 1) := by show _ = _; rw [HO.out]; simp
                  clear hown hown' hgrow hat hlt' hne eB
                  go_wp2
                  go_roundw
                  case rel => exact ⟨q + 1, some ⟨g', 0, none⟩, cap', by omega, by go_num, by rw [HLN.out], HOW1.out, HT1.out, HBB.out⟩
                  case measure => simp [intOf]; omega
            · have hqn : q = 2 * s.size := by omega
              have hSe : outAt true s.data.toList q = setL true s.data.toList := by rw [hqn, Lib.size_eq, out_all]
              obtain ⟨S, hS⟩ : ∃ S, outAt true s.data.toList q = S := ⟨_, rfl⟩
              have hown := HOW.out
              rw [hS] at hown hSe
              obtain ⟨x0, xr, hx, _⟩ := set_first true s.data.toList (by rw [← Lib.size_eq]; exact h0)
              have hpos : 0 < S.length := by rw [hSe, hx]; simp
              obtain ⟨ge, ce, hv, _, _⟩ := hown.form hpos
              have hao : ao = some ⟨ge, 0, none⟩ ∧ co = ce := by
                simp only [Value.slice.injEq, true_and] at hv
                exact hv
              obtain ⟨rfl, rfl⟩ := hao
              have hcvS := run_convert_bytes_back (P := Try.prog) wr 32 9 5 ⟨ge, 0, none⟩ co S Try.underlying32 Try.underlying5 Try.underlying9 (own_cells hown)
              have HSE : Hid (S = setL true s.data.toList) := hSe
              have HSQ : Hid (outAt true s.data.toList q = S) := hS
              rw [hS]
              clear hqn hSe hS hown hx hpos hv HOW hol
              go_wp2
              go_ret
              exact ⟨ret_string (by rw [HSE.out]), HB.out⟩
set_option maxHeartbeats 8000000 in
set_option maxRecDepth 100000 in
theorem placeSet_false (s : ByteArray) (w : World) (hs : s.size ≤ 524288) (h0 : 0 < s.size) :
    Calls Try.prog 33 #[.string s, .bool false] w fun e w' => e = .returned (.string ⟨(setL false s.data.toList).toArray⟩) ∧ Below w.heap.size w w' := by
  obtain ⟨i0, hi, hz0, hz1, hz2⟩ := info_parts Try.info5
  have hz60 := zero60
  go_enter Try.func33, Try.ntmps33
  go_wp2
  clear hz60
  go_loopw [6] (fun i wr => ∃ b : Nat, b ≤ 256 ∧ i = .int .i64 b ∧ Tab w.heap.size (fun c => if c.toNat < b then -1 else 0) wr ∧ Below w.heap.size w wr ∧ w.heap.size < wr.heap.size) (fun i _ => 256 - (intOf i).toNat)
  case atStart => exact ⟨0, Nat.zero_le _, rfl, tab_congr (tab_start w) (fun c => by simp), (Below.refl _ _).alloc (Nat.le_refl _) _, by simp⟩
  case round =>
    obtain ⟨b, hb, rfl, hT, hBl, hBs⟩ := hrel
    have HB : Hid (Below w.heap.size w wr) := hBl
    clear hBl
    by_cases hlt : b < 256
    · obtain ⟨c, hc⟩ : ∃ c : UInt8, c.toNat = b := ⟨b.toUInt8, by simp only [Nat.toUInt8, UInt8.toNat_ofNat']; omega⟩
      have hc1 := (hT c).1
      have hf1 := (hT c).2
      rw [hc] at hc1 hf1
      simp only at hc1
      have HT : Hid (Tab w.heap.size (fun x => if x.toNat < b + 1 then -1 else 0) (wr.setCell ⟨w.heap.size, b, none⟩ (.int .i64 (-1)))) := by
        show Tab _ _ _
        have := tab_set hT c (-1)
        rw [hc] at this
        refine tab_congr this (fun x => ?_)
        by_cases e : x = c
        · subst e; rw [if_pos rfl, if_pos (by omega)]
        · rw [if_neg e]
          have : x.toNat ≠ b := fun e2 => e (UInt8.toNat_inj.1 (by omega))
          by_cases h : x.toNat < b
          · rw [if_pos h, if_pos (by omega)]
          · rw [if_neg h, if_neg (by omega)]
      have HBB : Hid (Below w.heap.size w (wr.setCell ⟨w.heap.size, b, none⟩ (.int .i64 (-1)))) := HB.out.setCell (Nat.le_refl _) _
      clear hT hc
      go_wp2
      go_roundw
      case rel => exact ⟨b + 1, by omega, by go_num, HT.out, HBB.out, by simpa [World.setCell] using hBs⟩
      case measure => simp [intOf]; omega
    · have hT0 : Tab w.heap.size (fun c => tbl false s.data.toList c 0) wr := tab_congr hT (fun c => by have := c.toNat_lt; rw [if_pos (by omega)]; rfl)
      have HT0 : Hid (Tab w.heap.size (fun c => tbl false s.data.toList c 0) wr) := hT0
      clear hT hT0
      go_wp2
      rename World => wz
      go_loopw [7] (fun i wr => ∃ k : Nat, k ≤ s.size ∧ i = .int .i64 k ∧ Tab w.heap.size (fun c => tbl false s.data.toList c (2 * k)) wr ∧ Below w.heap.size w wr) (fun i _ => s.size - (intOf i).toNat)
      case atStart => exact ⟨0, Nat.zero_le _, rfl, HT0.out, HB.out⟩
      case round =>
        clear HT0 HB
        obtain ⟨k, hk, rfl, hT, hBl⟩ := hrel
        have HB : Hid (Below w.heap.size w wr) := hBl
        clear hBl
        by_cases hlt2 : k < s.size
        · have hlt' : s.data.toList[k]? = some s[k] := get_at s k hlt2
          have HL : Hid (s.data.toList[k]? = some s[k]) := hlt'
          clear hlt'
          have hlt' := HL.out
          have y1 := byte_lt s[k]
          have y2 := byte_lt (other s[k])
          obtain ⟨t1, ht1⟩ : ∃ t, tbl false s.data.toList s[k] (2 * k) = t := ⟨_, rfl⟩
          have hc1 : wr.cell? ⟨w.heap.size, s[k].toNat, none⟩ = some (.int .i64 (tbl false s.data.toList s[k] (2 * k))) := (hT s[k]).1
          have hf1 := (hT s[k]).2
          rw [ht1] at hc1
          by_cases h1 : t1 < 0
          · have HT : Hid (Tab w.heap.size (fun c => tbl false s.data.toList c (2 * (k + 1))) (wr.setCell ⟨w.heap.size, s[k].toNat, none⟩ (.int .i64 (2 * (k : Int))))) :=
              tab_congr (tab_set hT s[k] (2 * (k : Int))) (fun c => (tbl_even false s.data.toList c k hlt' (by rw [ht1]; exact h1)).trans (tbl_odd_off s.data.toList c k))
            have HBB : Hid (Below w.heap.size w (wr.setCell ⟨w.heap.size, s[k].toNat, none⟩ (.int .i64 (2 * (k : Int))))) := HB.out.setCell (Nat.le_refl _) _
            clear hT ht1
            go_wp2
            go_roundw
            case rel => exact ⟨k + 1, by omega, by go_num, HT.out, HBB.out⟩
            case measure => simp [intOf]; omega
          · have HT : Hid (Tab w.heap.size (fun c => tbl false s.data.toList c (2 * (k + 1))) wr) :=
              tab_congr hT (fun c => (tbl_even_no false s.data.toList c k hlt' (by rw [ht1]; exact h1)).trans (tbl_odd_off s.data.toList c k))
            clear hT ht1
            go_wp2
            go_roundw
            case rel => exact ⟨k + 1, by omega, by go_num, HT.out, HB.out⟩
            case measure => simp [intOf]; omega
        · have hkn : k = s.size := by omega
          subst hkn
          have HT : Hid (Tab w.heap.size (fun c => tbl false s.data.toList c (2 * s.size)) wr) := hT
          clear hT
          have hBs2 : w.heap.size < wr.heap.size := lt_of_cell (HT.out 0).1
          go_wp2
          rename World => wy
          go_loopw [10, 11] (fun v i wr => ∃ (q : Nat) (ao : Option Addr) (co : Nat), q ≤ 2 * s.size ∧ i = .int .i64 q ∧ v = .slice ao (outAt false s.data.toList q).length co ∧ wr.ownsRow (w.heap.size + 1) 5 1 (.slice ao (outAt false s.data.toList q).length co) (outAt false s.data.toList q).length ((outAt false s.data.toList q).map byteV) ∧ Tab w.heap.size (fun c => tbl false s.data.toList c (2 * s.size)) wr ∧ Below w.heap.size w wr)
            (fun _ i _ => 2 * s.size - (intOf i).toNat)
          case atStart => exact ⟨0, none, 0, Nat.zero_le _, rfl, rfl, World.ownsRow_nil _ _ _ _, HT.out, HB.out⟩
          case round =>
            clear HT HB hBs2
            obtain ⟨q, ao, co, hq, rfl, rfl, how, hT, hBl⟩ := hrel
            have HB : Hid (Below w.heap.size w wr) := hBl
            have HT : Hid (Tab w.heap.size (fun c => tbl false s.data.toList c (2 * s.size)) wr) := hT
            have HOW : Hid (wr.ownsRow (w.heap.size + 1) 5 1 (.slice ao (outAt false s.data.toList q).length co) (outAt false s.data.toList q).length ((outAt false s.data.toList q).map byteV)) := how
            have hBs2 : w.heap.size < wr.heap.size := lt_of_cell (HT.out 0).1
            have hol := out_length false s.data.toList q
            clear hBl hT how
            by_cases hqlt : q < 2 * s.size
            · obtain ⟨k, hk⟩ : ∃ k, k = q / 2 := ⟨_, rfl⟩
              have hk2 : k < s.size := by omega
              have y1 := byte_lt s[k]
              have y2 := byte_lt (other s[k])
              have e1 : (q : Int) / 2 = (k : Int) := by omega
              by_cases hpar : q % 2 = 0
              · have hqk : Hid (q = 2 * k) := by show _ = _; omega
                have e2 : (q : Int) % 2 = 0 := by omega
                clear hk hpar
                have hsl : slotAt false s.data.toList q = some s[k] := by
                  rw [hqk.out, slot_even, get_at s k hk2]
                have hq : tbl false s.data.toList s[k] (2 * s.size) = (q : Int) ↔ s[k] ∉ before false s.data.toList q := tbl_hit false s.data.toList q (2 * s.size) s[k] (by omega) hsl
                have hc1 : wr.cell? ⟨w.heap.size, s[k].toNat, none⟩ = some (.int .i64 (tbl false s.data.toList s[k] (2 * s.size))) := (HT.out s[k]).1
                by_cases hmem : s[k] ∈ before false s.data.toList q
                · have HO : Hid (outAt false s.data.toList (q + 1) = outAt false s.data.toList q) := out_old hsl hmem
                  have tq : (tbl false s.data.toList s[k] (2 * s.size) == (q : Int)) = false := by
                    rw [beq_eq_false_iff_ne]; intro e; exact hq.1 e hmem
                  clear hsl hq hmem
                  go_wp2
                  go_roundw
                  case rel => exact ⟨q + 1, ao, co, by omega, by go_num, by rw [HO.out], by rw [HO.out]; exact HOW.out, HT.out, HB.out⟩
                  case measure => simp [intOf]; omega
                · have HO : Hid (outAt false s.data.toList (q + 1) = outAt false s.data.toList q ++ [s[k]]) := out_new hsl hmem
                  have tq : (tbl false s.data.toList s[k] (2 * s.size) == (q : Int)) = true := by rw [beq_iff_eq]; exact hq.2 hmem
                  have hown := HOW.out
                  clear hsl hq hmem
                  go_wp2_with ((at_builtin; refine wpList_append_lies _ rfl _ _ 32 rfl (w.heap.size + 1) 5 i0 (.int .u8 0) 1 1 Try.underlying32 hi hz0 hz1 hz2 rfl (by decide) _ _ _ rfl (hown.alloc _) ⟨wr.heap.size, 0, none⟩ 1 1 [byteV s[k]] rfl rfl (cell_one_new _ _ _) (one_ok s[k]) (by omega) (max_ok (by omega)) (by omega) (by first | omega | (simp; omega)) _ rfl ?_))
                  intro g' cap' w1 hown' hgrow hat hlt'
                  have hne : (Value.slice ao (outAt false s.data.toList q).length co).ownBlock ≠ some w.heap.size := owns_ne hown (by omega)
                  have eB : w1.heap[w.heap.size]? = wr.heap[w.heap.size]? := by
                    rw [hgrow.block w.heap.size (by simp; omega) (fun e => hne e.symm), Below.heap_alloc _ _ _ (by omega)]
                  have HT1 : Hid (Tab w.heap.size (fun c => tbl false s.data.toList c (2 * s.size)) w1) := tab_block HT.out eB
                  have HBB : Hid (Below w.heap.size w w1) := (HB.out.alloc (by omega) _).grown hgrow (by simp; omega) (fun k h => by have := (hown.lt k h).1; omega)
                  have HOW1 : Hid (w1.ownsRow (w.heap.size + 1) 5 1 (.slice (some ⟨g', 0, none⟩) (outAt false s.data.toList (q + 1)).length cap') (outAt false s.data.toList (q + 1)).length ((outAt false s.data.toList (q + 1)).map byteV)) := by
                    show World.ownsRow _ _ _ _ _ _ _
                    rw [HO.out]
                    exact own_len hown' (by simp) (byteV_one _ _)
                  have hsz1 := hgrow.size
                  simp only [World.size_alloc] at hsz1
                  have HLN : Hid ((outAt false s.data.toList (q + 1)).length = (outAt false s.data.toList q).length + 1) := by show _ = _; rw [HO.out]; simp
                  clear hown hown' hgrow hat hlt' hne eB
                  go_wp2
                  go_roundw
                  case rel => exact ⟨q + 1, some ⟨g', 0, none⟩, cap', by omega, by go_num, by rw [HLN.out], HOW1.out, HT1.out, HBB.out⟩
                  case measure => simp [intOf]; omega
              · have hqk : Hid (q = 2 * k + 1) := by show _ = _; omega
                have e2 : (q : Int) % 2 = 1 := by omega
                clear hk hpar
                have hsl : slotAt false s.data.toList q = none := by rw [hqk.out, slot_odd]; rfl
                have HO : Hid (outAt false s.data.toList (q + 1) = outAt false s.data.toList q) := out_none hsl
                clear hsl
                go_wp2
                go_roundw
                case rel => exact ⟨q + 1, ao, co, by omega, by go_num, by rw [HO.out], by rw [HO.out]; exact HOW.out, HT.out, HB.out⟩
                case measure => simp [intOf]; omega
            · have hqn : q = 2 * s.size := by omega
              have hSe : outAt false s.data.toList q = setL false s.data.toList := by rw [hqn, Lib.size_eq, out_all]
              obtain ⟨S, hS⟩ : ∃ S, outAt false s.data.toList q = S := ⟨_, rfl⟩
              have hown := HOW.out
              rw [hS] at hown hSe
              obtain ⟨x0, xr, hx, _⟩ := set_first false s.data.toList (by rw [← Lib.size_eq]; exact h0)
              have hpos : 0 < S.length := by rw [hSe, hx]; simp
              obtain ⟨ge, ce, hv, _, _⟩ := hown.form hpos
              have hao : ao = some ⟨ge, 0, none⟩ ∧ co = ce := by
                simp only [Value.slice.injEq, true_and] at hv
                exact hv
              obtain ⟨rfl, rfl⟩ := hao
              have hcvS := run_convert_bytes_back (P := Try.prog) wr 32 9 5 ⟨ge, 0, none⟩ co S Try.underlying32 Try.underlying5 Try.underlying9 (own_cells hown)
              have HSE : Hid (S = setL false s.data.toList) := hSe
              have HSQ : Hid (outAt false s.data.toList q = S) := hS
              rw [hS]
              clear hqn hSe hS hown hx hpos hv HOW hol
              go_wp2
              go_ret
              exact ⟨ret_string (by rw [HSE.out]), HB.out⟩
end Go.Proofs.Qxb6601350a
