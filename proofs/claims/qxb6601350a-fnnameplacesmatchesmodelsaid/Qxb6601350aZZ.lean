/-
  SEAT b6601350a: THE WALK OF ZZnamePlaces.
-/
import Derived.Test.Qxb6601350aPlF
import Derived.Test.Qxb6601350aPlT
namespace Go.Proofs.Qxb6601350a
open Go.RowKit

theorem Try.info3 : (Try.prog.info? 3).map (fun i => (i.zero, i.size, i.bytes)) = some (some (.int .i64 0), 1, 8) := by kernel_rfl
theorem Try.info9 : (Try.prog.info? 9).map (fun i => (i.zero, i.size, i.bytes)) = some (some (.string ⟨#[]⟩), 1, 16) := by kernel_rfl

/-- namePlaces answers. -/
theorem namePlaces_any (text mask : ByteArray) (fold : Bool) (w : World) (hs : text.size ≤ 524288) (hm : mask.size = text.size) (hF : Fit text.data.toList mask.data.toList) :
    Calls Try.prog 32 #[.string text, .string mask, .bool fold] w fun e w' => ∃ vh vp r, e = .returned (.tuple #[vh, vp]) ∧ Rounds text.data.toList mask.data.toList fold r ∧ ¬ (stAt text.data.toList mask.data.toList fold r).at_ < text.data.toList.length ∧ Places text mask fold w.heap.size r vh vp w' ∧ Below w.heap.size w w' := by
  cases fold
  · exact namePlaces_false text mask w hs hm hF
  · exact namePlaces_true text mask w hs hm hF

theorem rounds_le {T M : List UInt8} {fold : Bool} {r : Nat} (h : Rounds T M fold r) : r ≤ T.length := by
  cases r with
  | zero => exact Nat.zero_le _
  | succ r =>
    have h1 := h r (by omega)
    have h2 := (st_bounds T M fold r).2.2.2
    omega
theorem off_ok (n : Nat) : ∀ u ∈ [Value.int .i64 (n : Int)], u.oneCell' = true := by intro u hu; simp at hu; subst hu; rfl
theorem str_ok (l : List UInt8) : ∀ u ∈ [Value.string ⟨l.toArray⟩], u.oneCell' = true := by intro u hu; simp at hu; subst hu; rfl
theorem zer_ok : ∀ u ∈ [Value.int .i64 0], u.oneCell' = true := by intro u hu; simp at hu; subst hu; rfl
/-- No block is both's. -/
def Apart (a b : Value) : Prop := ∀ g, a.ownBlock = some g → b.ownBlock ≠ some g
theorem apart_symm {a b : Value} (h : Apart a b) : Apart b a := fun g hb ha => h g ha hb
theorem apart_kept {a b : Value} (h : Apart a b) : b.ownBlock = none ∨ b.ownBlock ≠ a.ownBlock := by
  cases hb : b.ownBlock with
  | none => exact .inl rfl
  | some g => exact .inr (fun e => h g e.symm hb)
theorem apart_grow {a b : Value} {g H n c : Nat} (h : Apart a b) (hg : a.ownBlock = some g ∨ g = H) (hb : ∀ k, b.ownBlock = some k → k < H) : Apart (.slice (some ⟨g, 0, none⟩) n c) b := by
  intro k hk e
  have hk' : g = k := by simpa [Value.ownBlock] using hk
  subst hk'
  rcases hg with hg | hg
  · exact h g hg e
  · have := hb g e; omega
theorem own_not_block {w : World} {base e size n B t : Nat} {v : Value} {xs : List Value} {cs : Array Value} (h : w.ownsRow base e size v n xs) (hB : w.heap[B]? = some (.cells cs t (0, 0))) (hne : e ≠ t) : v.ownBlock ≠ some B := by
  rcases h.2 with ⟨hv, _⟩ | ⟨g, cap, cur, hv, _, hh, _⟩
  · rw [hv]; simp [Value.ownBlock]
  · rw [hv]
    simp only [Value.ownBlock, ne_eq, Option.some.injEq]
    intro e1
    subst e1
    rw [hh] at hB
    simp at hB
    exact hne hB.2
theorem cell_one_at {w : World} {v : Value} {t B : Nat} (hB : w.heap.size = B) : ∀ j u, [v][j]? = some u → (w.alloc (.cells #[v] t)).cell? ((⟨B, 0, none⟩ : Addr).add j) = some u := by
  subst hB
  exact cell_one_new _ _ _
theorem own_base {w : World} {b b' e size n : Nat} {v : Value} {xs : List Value} (h : w.ownsRow b e size v n xs) (hb : b' ≤ b) : w.ownsRow b' e size v n xs := by
  obtain ⟨h1, h2⟩ := h
  refine ⟨h1, ?_⟩
  rcases h2 with h2 | ⟨g, cap, cur, hv, hg, r⟩
  · exact Or.inl h2
  · exact Or.inr ⟨g, cap, cur, hv, by omega, r⟩

def offV (n : Nat) : Value := .int .i64 (n : Int)
def strV (l : List UInt8) : Value := .string ⟨l.toArray⟩

theorem placeC_at (offs : List Nat) (sets : List (List UInt8)) (m : Nat) (h : m < offs.length) (h' : m < sets.length) :
    (placesC offs sets)[m * 3]? = some (.int .i64 (offs[m] : Int)) ∧ (placesC offs sets)[m * 3 + 1]? = some (.int .i64 0) ∧ (placesC offs sets)[m * 3 + 2]? = some (strV sets[m]) := by
  unfold placesC
  induction offs generalizing sets m with
  | nil => simp at h
  | cons a offs ih =>
    cases sets with
    | nil => simp at h'
    | cons s sets =>
      cases m with
      | zero => exact ⟨rfl, rfl, rfl⟩
      | succ m =>
        have ih := ih sets m (by simpa using h) (by simpa using h')
        rw [List.zip_cons_cons, List.flatMap_cons]
        have e0 : (placeC (a, s)).length = 3 := rfl
        have e1 : (m + 1) * 3 = 3 + m * 3 := by omega
        refine ⟨?_, ?_, ?_⟩
        · rw [e1, List.getElem?_append_right (by omega), e0]
          have : 3 + m * 3 - 3 = m * 3 := by omega
          rw [this]; simpa using ih.1
        · rw [e1, List.getElem?_append_right (by omega), e0]
          have : 3 + m * 3 + 1 - 3 = m * 3 + 1 := by omega
          rw [this]; simpa using ih.2.1
        · rw [e1, List.getElem?_append_right (by omega), e0]
          have : 3 + m * 3 + 2 - 3 = m * 3 + 2 := by omega
          rw [this]; simpa using ih.2.2

set_option maxHeartbeats 4000000 in
theorem zzPlaces_any (text mask : ByteArray) (fold : Bool) (w : World) (hs : text.size ≤ 524288) (hm : mask.size = text.size) (hF : Fit text.data.toList mask.data.toList) :
    Calls Try.prog 22 #[.string text, .string mask, .bool fold] w fun e w' => ∃ vh va vl vs r, e = .returned (.tuple #[vh, va, vl, vs]) ∧ Rounds text.data.toList mask.data.toList fold r ∧ ¬ (stAt text.data.toList mask.data.toList fold r).at_ < text.data.toList.length ∧
      w'.ownsRow w.heap.size 5 1 vh (stAt text.data.toList mask.data.toList fold r).head.length ((stAt text.data.toList mask.data.toList fold r).head.map byteV) ∧
      w'.ownsRow w.heap.size 3 1 va (stAt text.data.toList mask.data.toList fold r).offs.length ((stAt text.data.toList mask.data.toList fold r).offs.map offV) ∧
      w'.ownsRow w.heap.size 3 1 vl (stAt text.data.toList mask.data.toList fold r).offs.length ((stAt text.data.toList mask.data.toList fold r).offs.map fun _ => Value.int .i64 0) ∧
      w'.ownsRow w.heap.size 9 1 vs (stAt text.data.toList mask.data.toList fold r).offs.length ((stAt text.data.toList mask.data.toList fold r).sets.map strV) ∧ Below w.heap.size w w' := by
  obtain ⟨i3, hi, hz0, hz1, hz2⟩ := info_parts Try.info3
  obtain ⟨i9, hj, hy0, hy1, hy2⟩ := info_parts Try.info9
  have HC : Hid (∀ w : World, Calls Try.prog 32 #[.string text, .string mask, .bool fold] w fun e w' => ∃ vh vp r, e = .returned (.tuple #[vh, vp]) ∧ Rounds text.data.toList mask.data.toList fold r ∧ ¬ (stAt text.data.toList mask.data.toList fold r).at_ < text.data.toList.length ∧ Places text mask fold w.heap.size r vh vp w' ∧ Below w.heap.size w w') := fun w => namePlaces_any text mask fold w hs hm hF
  clear hm hF
  go_enter Try.func22, Try.ntmps22
  go_wp2_with (go_at_call 32; refine (HC.out _).mono ?_; rintro e w1 ⟨vh, vp, r, rfl, hR, hN, hP, hb⟩; obtain ⟨ah, ch, hvh⟩ := own_form hP.1; obtain ⟨ap, cp, hvp⟩ := own_form hP.2; rw [hvh, hvp] at hP ⊢)
  have HR : Hid (Rounds text.data.toList mask.data.toList fold r) := hR
  have HN : Hid (¬ (stAt text.data.toList mask.data.toList fold r).at_ < text.data.toList.length) := hN
  have bnd := st_bounds text.data.toList mask.data.toList fold r
  have hrt := rounds_le hR
  obtain ⟨hoh, hop⟩ := hP
  obtain ⟨st, hst⟩ : ∃ st, stAt text.data.toList mask.data.toList fold r = st := ⟨_, rfl⟩
  rw [hst] at hoh hop bnd ⊢
  have HST : Hid (stAt text.data.toList mask.data.toList fold r = st) := hst
  have hlen : st.sets.length = st.offs.length := bnd.2.2.1
  have hN2 : st.offs.length ≤ 524288 := by have := bnd.2.1; have := Lib.size_eq text; omega
  obtain ⟨head, offs, sets, e1, e2, e3⟩ : ∃ head offs sets, st.head = head ∧ st.offs = offs ∧ st.sets = sets := ⟨_, _, _, rfl, rfl, rfl⟩
  have HE : Hid (st.head = head ∧ st.offs = offs ∧ st.sets = sets) := ⟨e1, e2, e3⟩
  rw [e1] at hoh
  rw [e2, e3] at hop
  rw [e2, e3] at hlen
  rw [e2] at hN2
  rw [e1, e2]
  have HOH : Hid (w1.ownsRow w.heap.size 5 1 (.slice ah head.length ch) head.length (head.map byteV)) := hoh
  have HOP : Hid (w1.ownsRow w.heap.size 53 3 (.slice ap offs.length cp) offs.length (placesC offs sets)) := hop
  have HB : Hid (Below w.heap.size w w1) := hb
  have HL : Hid (sets.length = offs.length) := hlen
  clear hR hN bnd hrt hoh hop hst e1 e2 e3 hb hvh hvp hlen HC
  go_loopw [7, 8, 9, 23] (fun va vl vs i wr => ∃ (m : Nat) (aa : Option Addr) (ca : Nat) (al : Option Addr) (cl : Nat) (as_ : Option Addr) (cs : Nat), m ≤ offs.length ∧ i = .int .i64 m ∧ va = .slice aa m ca ∧ vl = .slice al m cl ∧ vs = .slice as_ m cs ∧
      wr.ownsRow w1.heap.size 3 1 (.slice aa m ca) m ((offs.map offV).take m) ∧ wr.ownsRow w1.heap.size 3 1 (.slice al m cl) m ((offs.map fun _ => Value.int .i64 0).take m) ∧ wr.ownsRow w1.heap.size 9 1 (.slice as_ m cs) m ((sets.map strV).take m) ∧
      Apart (.slice aa m ca) (.slice al m cl) ∧ Below w1.heap.size w1 wr)
    (fun _ _ _ i _ => offs.length - (intOf i).toNat)
  case atStart => exact ⟨0, none, 0, none, 0, none, 0, Nat.zero_le _, rfl, rfl, rfl, rfl, World.ownsRow_nil _ _ _ _, World.ownsRow_nil _ _ _ _, World.ownsRow_nil _ _ _ _, (fun g h => by cases h), Below.refl _ _⟩
  case round =>
    obtain ⟨m, aa, ca, al, cl, as_, cs, hm, rfl, rfl, rfl, rfl, hoa, hol, hos, hne, hb⟩ := hrel
    by_cases hlt : m < offs.length
    · have hls : m < sets.length := by have := HL.out; omega
      have hop := own_below HOP.out hb
      obtain ⟨gp, cpp, hv, hg1, hg2⟩ := hop.form (by omega)
      simp only [Value.slice.injEq, true_and] at hv
      obtain ⟨rfl, rfl⟩ := hv
      obtain ⟨c1, c2, c3⟩ := placeC_at offs sets m hlt hls
      have d1 : wr.cell? ⟨gp, m * 3, none⟩ = some (.int .i64 (offs[m] : Int)) := (hop.cellAt (m * 3) (by omega)).trans c1
      have d2 : wr.cell? ⟨gp, m * 3 + 1, none⟩ = some (.int .i64 0) := (hop.cellAt (m * 3 + 1) (by omega)).trans c2
      have d3 : wr.cell? ⟨gp, m * 3 + 2, none⟩ = some (.string ⟨sets[m].toArray⟩) := (hop.cellAt (m * 3 + 2) (by omega)).trans c3
      clear c1 c2 c3 hop
      have hw1 := hb.size
      go_wp2_with (at_builtin; refine wpList_append_lies _ rfl (.tmp 27) (.tmp 30) 25 rfl w1.heap.size 3 i3 (.int .i64 0) 1 8 Try.underlying25 hi hz0 hz1 hz2 rfl (by decide) _ _ _ rfl ((hoa.alloc _).alloc _) ⟨wr.heap.size + 1, 0, none⟩ 1 1 [.int .i64 (offs[m] : Int)] rfl rfl (cell_one_at (by simp)) (off_ok offs[m]) (by omega) (max_ok (by omega)) (by omega) (by first | omega | (simp; omega)) _ rfl ?_)
      intro ga cca w2 hoa2 hgra hata hlta
      have hs2 := hgra.size
      simp only [World.size_alloc] at hs2
      have hnb : ∀ g, (Value.slice aa m ca).ownBlock = some g → g < wr.heap.size := fun g hg => (hoa.lt g hg).2
      have hP2 : w2.heap[wr.heap.size]? = some (.cells #[.int .i64 (offs[m] : Int), .int .i64 0, .string ⟨sets[m].toArray⟩] 53 (0, 0)) := by
        rw [hgra.block wr.heap.size (by simp; omega) (fun e => by have := hnb _ e.symm; omega), Below.heap_alloc _ _ _ (by simp)]
        exact heap_alloc_new wr _
      have p2 : w2.cell? ⟨wr.heap.size, 1, none⟩ = some (.int .i64 0) := cell_of_row w2 wr.heap.size 1 _ _ _ hP2
      have hol2 : w2.ownsRow w1.heap.size 3 1 (.slice al m cl) m ((offs.map fun _ => Value.int .i64 0).take m) := ((hol.alloc (.cells #[.int .i64 (offs[m] : Int), .int .i64 0, .string ⟨sets[m].toArray⟩] 53)).alloc (.cells #[.int .i64 (offs[m] : Int)] 3)).kept hgra (apart_kept hne)
      have hos2 : w2.ownsRow w1.heap.size 9 1 (.slice as_ m cs) m ((sets.map strV).take m) := ((hos.alloc (.cells #[.int .i64 (offs[m] : Int), .int .i64 0, .string ⟨sets[m].toArray⟩] 53)).alloc (.cells #[.int .i64 (offs[m] : Int)] 3)).kept hgra (own_types hos hoa (by decide))
      have hne2 : Apart (.slice (some ⟨ga, 0, none⟩) (m + 1) cca) (.slice al m cl) := apart_grow hne hata (fun g hg => by have := (hol.lt g hg).2; first | omega | (simp; omega))
      have hb2 : Below w1.heap.size w1 w2 := ((hb.alloc hw1 _).alloc (by simp; omega) _).grown hgra (by simp; omega) (fun k h => (hoa.lt k h).1)
      have HA2 : Hid (w2.ownsRow w1.heap.size 3 1 (.slice (some ⟨ga, 0, none⟩) (m + 1) cca) (m + 1) ((offs.map offV).take m ++ [.int .i64 (offs[m] : Int)])) := hoa2
      have HP2 : Hid (w2.heap[wr.heap.size]? = some (.cells #[.int .i64 (offs[m] : Int), .int .i64 0, .string ⟨sets[m].toArray⟩] 53 (0, 0))) := hP2
      have HNE2 : Hid (Apart (.slice (some ⟨ga, 0, none⟩) (m + 1) cca) (.slice al m cl)) := hne2
      have HB2 : Hid (Below w1.heap.size w1 w2) := hb2
      have HS2 : Hid (w2.ownsRow w1.heap.size 9 1 (.slice as_ m cs) m ((sets.map strV).take m)) := hos2
      have hlta2 : ga < w2.heap.size := hlta
      clear hoa hol hos hne hb hoa2 hgra hata hlta hnb hP2 hos2 hne2 hb2 d1 d2 d3
      go_wp2_with (at_builtin; refine wpList_append_lies _ rfl (.tmp 32) (.tmp 35) 25 rfl w1.heap.size 3 i3 (.int .i64 0) 1 8 Try.underlying25 hi hz0 hz1 hz2 rfl (by decide) _ _ _ rfl (hol2.alloc _) ⟨w2.heap.size, 0, none⟩ 1 1 [.int .i64 0] rfl rfl (cell_one_new _ _ _) (zer_ok) (by omega) (max_ok (by omega)) (by omega) (by first | omega | (simp; omega)) _ rfl ?_)
      intro gl ccl w3 hol3 hgrl hatl hltl
      have hs3 := hgrl.size
      simp only [World.size_alloc] at hs3
      have hnb : ∀ g, (Value.slice al m cl).ownBlock = some g → g ≠ wr.heap.size := fun g hg e => by
        subst e
        exact own_not_block hol2 HP2.out (by decide) hg
      have hP3 : w3.heap[wr.heap.size]? = some (.cells #[.int .i64 (offs[m] : Int), .int .i64 0, .string ⟨sets[m].toArray⟩] 53 (0, 0)) := by
        rw [hgrl.block wr.heap.size (by simp; omega) (fun e => hnb _ e.symm rfl), Below.heap_alloc _ _ _ (by omega)]
        exact HP2.out
      have p3 : w3.cell? ⟨wr.heap.size, 2, none⟩ = some (.string ⟨sets[m].toArray⟩) := cell_of_row w3 wr.heap.size 2 _ _ _ hP3
      have hoa3 := (HA2.out.alloc (.cells #[.int .i64 0] 3)).kept hgrl (apart_kept (apart_symm HNE2.out))
      have hos3 : w3.ownsRow w1.heap.size 9 1 (.slice as_ m cs) m ((sets.map strV).take m) := (HS2.out.alloc (.cells #[.int .i64 0] 3)).kept hgrl (own_types HS2.out hol2 (by decide))
      have hne3 : Apart (.slice (some ⟨ga, 0, none⟩) (m + 1) cca) (.slice (some ⟨gl, 0, none⟩) (m + 1) ccl) := apart_symm (apart_grow (apart_symm HNE2.out) hatl (fun g hg => by simp [Value.ownBlock] at hg; first | omega | (simp; omega)))
      have hb3 : Below w1.heap.size w1 w3 := (HB2.out.alloc (by omega) _).grown hgrl (by simp; omega) (fun k h => (hol2.lt k h).1)
      have HA3 : Hid (w3.ownsRow w1.heap.size 3 1 (.slice (some ⟨ga, 0, none⟩) (m + 1) cca) (m + 1) ((offs.map offV).take m ++ [.int .i64 (offs[m] : Int)])) := hoa3
      have HL3 : Hid (w3.ownsRow w1.heap.size 3 1 (.slice (some ⟨gl, 0, none⟩) (m + 1) ccl) (m + 1) (((offs.map fun _ => Value.int .i64 0).take m) ++ [.int .i64 0])) := hol3
      have HNE3 : Hid (Apart (.slice (some ⟨ga, 0, none⟩) (m + 1) cca) (.slice (some ⟨gl, 0, none⟩) (m + 1) ccl)) := hne3
      have HB3 : Hid (Below w1.heap.size w1 w3) := hb3
      clear HA2 HP2 HNE2 HB2 HS2 hol2 hol3 hgrl hatl hltl hnb hP3 hoa3 hne3 hb3 p2
      go_wp2_with (at_builtin; refine wpList_append_lies _ rfl (.tmp 37) (.tmp 40) 35 rfl w1.heap.size 9 i9 (.string ⟨#[]⟩) 1 16 Try.underlying35 hj hy0 hy1 hy2 rfl (by decide) _ _ _ rfl (hos3.alloc _) ⟨w3.heap.size, 0, none⟩ 1 1 [.string ⟨sets[m].toArray⟩] rfl rfl (cell_one_new _ _ _) (str_ok sets[m]) (by omega) (max_ok (by omega)) (by omega) (by first | omega | (simp; omega)) _ rfl ?_)
      intro gs ccs w4 hos4 hgrs hats hlts
      have hoa4 := (HA3.out.alloc (.cells #[.string ⟨sets[m].toArray⟩] 9)).kept hgrs (own_types HA3.out hos3 (by decide))
      have hol4 := (HL3.out.alloc (.cells #[.string ⟨sets[m].toArray⟩] 9)).kept hgrs (own_types HL3.out hos3 (by decide))
      have hb4 : Below w1.heap.size w1 w4 := (HB3.out.alloc (by omega) _).grown hgrs (by simp; omega) (fun k h => (hos3.lt k h).1)
      have HA4 : Hid (w4.ownsRow w1.heap.size 3 1 (.slice (some ⟨ga, 0, none⟩) (m + 1) cca) (m + 1) ((offs.map offV).take (m + 1))) := by
        show World.ownsRow _ _ _ _ _ _ _; rw [List.take_succ_eq_append_getElem (by simpa using hlt), List.getElem_map]; exact hoa4
      have HL4 : Hid (w4.ownsRow w1.heap.size 3 1 (.slice (some ⟨gl, 0, none⟩) (m + 1) ccl) (m + 1) ((offs.map fun _ => Value.int .i64 0).take (m + 1))) := by
        show World.ownsRow _ _ _ _ _ _ _; rw [List.take_succ_eq_append_getElem (by simpa using hlt), List.getElem_map]; exact hol4
      have HS4 : Hid (w4.ownsRow w1.heap.size 9 1 (.slice (some ⟨gs, 0, none⟩) (m + 1) ccs) (m + 1) ((sets.map strV).take (m + 1))) := by
        show World.ownsRow _ _ _ _ _ _ _; rw [List.take_succ_eq_append_getElem (by simpa using hls), List.getElem_map]; exact hos4
      have HB4 : Hid (Below w1.heap.size w1 w4) := hb4
      clear HA3 HL3 HB3 hos3 hos4 hgrs hats hlts hoa4 hol4 hb4 p3
      go_wp2
      go_roundw
      case rel => exact ⟨m + 1, some ⟨ga, 0, none⟩, cca, some ⟨gl, 0, none⟩, ccl, some ⟨gs, 0, none⟩, ccs, by omega, by go_num, rfl, rfl, rfl, HA4.out, HL4.out, HS4.out, HNE3.out, HB4.out⟩
      case measure => simp [intOf]; omega
    · have hmn : m = offs.length := by omega
      subst hmn
      have HA : Hid (wr.ownsRow w.heap.size 3 1 (.slice aa offs.length ca) offs.length (offs.map offV)) := by
        have := own_base hoa HB.out.size
        rwa [List.take_of_length_le (by simp)] at this
      have HLL : Hid (wr.ownsRow w.heap.size 3 1 (.slice al offs.length cl) offs.length (offs.map fun _ => Value.int .i64 0)) := by
        have := own_base hol HB.out.size
        rwa [List.take_of_length_le (by simp)] at this
      have HSS : Hid (wr.ownsRow w.heap.size 9 1 (.slice as_ offs.length cs) offs.length (sets.map strV)) := by
        have := own_base hos HB.out.size
        rwa [List.take_of_length_le (by simp [HL.out])] at this
      have HH : Hid (wr.ownsRow w.heap.size 5 1 (.slice ah head.length ch) head.length (head.map byteV)) := own_below HOH.out hb
      have HBB : Hid (Below w.heap.size w wr) := HB.out.trans (hb.mono HB.out.size)
      clear hoa hol hos hne hb
      go_wp2
      refine bodyPost_ret (v := .tuple #[.slice ah head.length ch, .slice aa offs.length ca, .slice al offs.length cl, .slice as_ offs.length cs]) (by simp [results, Try.results22, go_sem]) rfl ⟨_, _, _, _, r, rfl, HR.out, HN.out, ?_, ?_, ?_, ?_, HBB.out⟩
      · rw [HST.out, HE.out.1]; exact HH.out
      · rw [HST.out, HE.out.2.1]; exact HA.out
      · rw [HST.out, HE.out.2.1]; exact HLL.out
      · rw [HST.out, HE.out.2.1, HE.out.2.2]; exact HSS.out
end Go.Proofs.Qxb6601350a
