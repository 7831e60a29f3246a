/-
  SEAT b6601350a: THE WALK OF namePlacesModel (the round's remainder stands twice, by program: a bracket, a byte).
-/
import Derived.Test.Qxb6601350aZZ
import Derived.Test.Qxb6601350aSetM
namespace Go.Proofs.Qxb6601350a
open Go.RowKit

theorem placeSet_any (s : ByteArray) (fold : Bool) (w : World) (hs : s.size ≤ 524288) (h0 : 0 < s.size) :
    Calls Try.prog 33 #[.string s, .bool fold] w fun e w' => e = .returned (.string ⟨(setL fold s.data.toList).toArray⟩) ∧ Below w.heap.size w w' := by
  cases fold
  · exact placeSet_false s w hs h0
  · exact placeSet_true s w hs h0
theorem placeSet_at (s : ByteArray) (fold : Bool) (w : World) (hs : s.size ≤ 524288) (h0 : 0 < s.size) (S : List UInt8) (hS : setL fold s.data.toList = S) :
    Calls Try.prog 33 #[.string s, .bool fold] w fun e w' => e = .returned (.string ⟨S.toArray⟩) ∧ Below w.heap.size w w' :=
  (placeSet_any s fold w hs h0).mono fun _ _ g => ⟨by rw [g.1, hS], g.2⟩

/-- What the model has gathered by round r. -/
def PlacesM (text mask : ByteArray) (fold : Bool) (base r : Nat) (vh va vs : Value) (w : World) : Prop :=
  w.ownsRow base 5 1 vh (stAt text.data.toList mask.data.toList fold r).head.length ((stAt text.data.toList mask.data.toList fold r).head.map byteV) ∧
  w.ownsRow base 3 1 va (stAt text.data.toList mask.data.toList fold r).offs.length ((stAt text.data.toList mask.data.toList fold r).offs.map offV) ∧
  w.ownsRow base 9 1 vs (stAt text.data.toList mask.data.toList fold r).offs.length ((stAt text.data.toList mask.data.toList fold r).sets.map strV)

theorem ext_chars (text : ByteArray) (a b : Nat) (h : b ≤ text.size) : (text.extract a b).data.toList = (text.data.toList.drop a).take (b - a) ∧ (text.extract a b).size = b - a := by
  refine ⟨Lib.extract_data text a b, ?_⟩
  rw [Lib.size_eq, Lib.extract_data, List.length_take, List.length_drop, ← Lib.size_eq]
  omega
theorem first_char (text : ByteArray) (a n : Nat) (ha : a < text.size) (hn : 0 < n) : ((text.data.toList.drop a).take n).headD 0 = text[a] := by
  rw [drop_cons text a ha]
  cases n with
  | zero => omega
  | succ n => rfl
theorem close_no {text : ByteArray} {a j : Nat} (h : 0 ≤ Lib.indexByte (text.data.toList.drop a) 93) (hj : ¬ j < text.size) (hno : (93 : UInt8) ∉ (text.data.toList.drop a).take (j - a)) : False := by
  have e : (text.data.toList.drop a).take (j - a) = text.data.toList.drop a := List.take_of_length_le (by rw [List.length_drop, ← Lib.size_eq]; omega)
  rw [e] at hno
  rw [index_miss hno] at h
  omega

set_option maxHeartbeats 8000000 in
theorem model_any (text mask : ByteArray) (fold : Bool) (w : World) (hs : text.size ≤ 524288) (hm : mask.size = text.size) (hF : Fit text.data.toList mask.data.toList) :
    Calls Try.prog 23 #[.string text, .string mask, .bool fold] w fun e w' => ∃ vh va vs r, e = .returned (.tuple #[vh, va, vs]) ∧ Rounds text.data.toList mask.data.toList fold r ∧ ¬ (stAt text.data.toList mask.data.toList fold r).at_ < text.data.toList.length ∧ PlacesM text mask fold w.heap.size r vh va vs w' ∧ Below w.heap.size w w' := by
  have HF : Hid (Fit text.data.toList mask.data.toList) := hF
  have hm1 : mask.size ≤ text.size := by omega
  have hm2 : text.size ≤ mask.size := by omega
  obtain ⟨i3, hi, hz0, hz1, hz2⟩ := info_parts Try.info3
  obtain ⟨i9, hq9, hy0, hy1, hy2⟩ := info_parts Try.info9
  obtain ⟨i5, hk5, hv0, hv1, hv2⟩ := info_parts Try.info5
  clear hF hm
  go_enter Try.func23, Try.ntmps23
  go_wp2
  go_loopw [9, 10, 11, 12] (fun vh va vs i wr => ∃ (r k : Nat) (ah : Option Addr) (nh ch : Nat) (aa : Option Addr) (na ca : Nat) (as_ : Option Addr) (cs : Nat), i = .int .i64 k ∧ k ≤ text.size ∧ (stAt text.data.toList mask.data.toList fold r).at_ = k ∧ Rounds text.data.toList mask.data.toList fold r ∧ nh = r ∧ na ≤ r ∧
      vh = .slice ah nh ch ∧ va = .slice aa na ca ∧ vs = .slice as_ na cs ∧ PlacesM text mask fold w.heap.size r (.slice ah nh ch) (.slice aa na ca) (.slice as_ na cs) wr ∧ Below w.heap.size w wr)
    (fun _ _ _ i _ => text.size - (intOf i).toNat)
  case atStart => exact ⟨0, 0, none, 0, 0, none, 0, 0, none, 0, rfl, Nat.zero_le _, rfl, fun _ h => by omega, rfl, Nat.le_refl _, rfl, rfl, rfl, ⟨World.ownsRow_nil _ _ _ _, World.ownsRow_nil _ _ _ _, World.ownsRow_nil _ _ _ _⟩, Below.refl _ _⟩
  case round =>
    rename World => wo
    obtain ⟨r, k, ah, nh, ch, aa, na, ca, as_, cs, rfl, hk, hat, hrd, hnh, hnp, rfl, rfl, rfl, hP, hb⟩ := hrel
    have HRD : Hid (Rounds text.data.toList mask.data.toList fold r) := hrd
    have HB : Hid (Below w.heap.size w wo) := hb
    have bnd := st_bounds text.data.toList mask.data.toList fold r
    by_cases hlt : k < text.size
    · have HRD1 : Hid (Rounds text.data.toList mask.data.toList fold (r + 1)) := rounds_more hrd (by rw [hat, ← Lib.size_eq]; exact hlt)
      have HG : Hid (Good text.data.toList mask.data.toList k) := by
        show Good _ _ _
        rw [← hat]
        exact HF.out fold r (fun r' hr => HRD1.out r' (by omega))
      obtain ⟨hoh0, hoa0, hos0⟩ := hP
      obtain ⟨st, hst⟩ : ∃ st, stAt text.data.toList mask.data.toList fold r = st := ⟨_, rfl⟩
      rw [hst] at hoh0 hoa0 hos0 hat bnd
      have HST : Hid (stAt text.data.toList mask.data.toList fold r = st) := hst
      have HAT : Hid (st.at_ = k) := hat
      have HNH : Hid (nh = r) := hnh
      have HNL : Hid (nh = st.head.length) := by show _ = _; omega
      have HNP : Hid (st.offs.length ≤ r) := bnd.2.1
      have hrk : r ≤ k := by omega
      have hhl : st.head.length ≤ k := by omega
      have hol : st.offs.length ≤ k := by omega
      have hnk : nh ≤ k := by omega
      clear hat hrd hb hnh hst bnd
      have hltm : k < mask.size := by omega
      by_cases h0 : (mask[k].toNat : Int) = 0
      · have t0 : ((mask[k].toNat : Int) == 0) = true := by simpa using h0
        obtain ⟨hbr, hch, hnx⟩ := chars_br (text := text) hltm h0
        obtain ⟨_, hc0, hc1, hc2, _⟩ := HG.out hbr
        have hc2' : k + 1 + close text.data.toList k < text.size := by rw [Lib.size_eq]; exact hc2
        obtain ⟨S, hS⟩ : ∃ S, setL fold (charsOf text.data.toList mask.data.toList k) = S := ⟨_, rfl⟩
        have HS : Hid (setL fold (charsOf text.data.toList mask.data.toList k) = S) := hS
        have hSl := setL_length fold (charsOf text.data.toList mask.data.toList k)
        rw [hS] at hSl
        clear hS
        have hk1 : k + 1 < text.size := by omega
        obtain ⟨x0, hx0⟩ : ∃ x, text[k + 1]'hk1 = x := ⟨_, rfl⟩
        have HBR : Hid (isBr mask.data.toList k = true) := hbr
        have HNX : Hid (nextOf text.data.toList mask.data.toList k = k + 1 + close text.data.toList k + 1) := hnx
        have HHD : Hid ((charsOf text.data.toList mask.data.toList k).headD 0 = x0) := by show _ = _; rw [hch, first_char text (k + 1) _ (by omega) hc0, hx0]
        have HXS : Hid ((text.extract (k + 1) (k + 1 + close text.data.toList k)).size = close text.data.toList k) := by
          show _ = _
          rw [(ext_chars text (k + 1) (k + 1 + close text.data.toList k) (by omega)).2]; omega
        have HSX : Hid (setL fold (text.extract (k + 1) (k + 1 + close text.data.toList k)).data.toList = S) := by
          show _ = _
          rw [(ext_chars text (k + 1) (k + 1 + close text.data.toList k) (by omega)).1]
          have e : k + 1 + close text.data.toList k - (k + 1) = close text.data.toList k := by omega
          rw [e, ← hch]; exact HS.out
        have HC1 : Hid (0 ≤ Lib.indexByte (text.data.toList.drop (k + 1)) 93) := hc1
        have hSl2 : S.length ≤ 1048576 := by
          rw [hch, List.length_take, List.length_drop, ← Lib.size_eq] at hSl; omega
        clear h0 hbr hch hnx hc1 hc2 hSl
        go_wp2
        clear t0
        rename World => wo
        go_loop [17] (fun i => ∃ j : Nat, k + 1 ≤ j ∧ j ≤ text.size ∧ i = .int .i64 j ∧ (93 : UInt8) ∉ (text.data.toList.drop (k + 1)).take (j - (k + 1))) (fun i => text.size - (intOf i).toNat)
        case atStart => exact ⟨k + 1, Nat.le_refl _, by omega, by go_num, by simp⟩
        case round =>
          obtain ⟨j, hj0, hj, rfl, hno⟩ := hrel
          have HN : Hid ((93 : UInt8) ∉ (text.data.toList.drop (k + 1)).take (j - (k + 1))) := hno
          clear hno
          by_cases hjl : j < text.size
          · by_cases h93 : (text[j].toNat : Int) = 93
            · have t2 : ((text[j].toNat : Int) != 93) = false := by simpa using h93
              have hje : j = k + 1 + close text.data.toList k := by
                have := close_at hj0 hjl h93 HN.out
                unfold close
                omega
              have HJ : Hid (j = k + 1 + close text.data.toList k) := hje
              have HXS2 : Hid ((text.extract (k + 1) j).size = close text.data.toList k) := by show _ = _; rw [HJ.out]; exact HXS.out
              have HSX2 : Hid (setL fold (text.extract (k + 1) j).data.toList = S) := by show _ = _; rw [HJ.out]; exact HSX.out
              have hjc1 : k + 1 + close text.data.toList k ≤ j := by omega
              have hjc2 : j ≤ k + 1 + close text.data.toList k := by omega
              clear h93 hje HN
              have j1 : (0 : Int) ≤ (k : Int) + 1 := by omega
              have j2 : (k : Int) + 1 ≤ (j : Int) := by omega
              have j3 : (j : Int) ≤ (text.size : Int) := by omega
              have j4 : (k : Int) + 1 < (text.size : Int) := by omega
              go_wp2_with fail
              refine (placeSet_at _ fold _ (by have := HXS2.out; omega) (by have := HXS2.out; omega) S HSX2.out).mono ?_
              rintro e wx ⟨rfl, hbx0⟩
              have hoh := own_below hoh0 hbx0
              have hoa := own_below hoa0 hbx0
              have hos := own_below hos0 hbx0
              have hwo := HB.out.size
              have hbx : Below w.heap.size w wx := HB.out.trans (hbx0.mono hwo)
              have hsx := hbx0.size
              clear hbx0
              go_wp2_with (at_builtin; refine wpList_append_lies _ rfl (.tmp 64) (.tmp 67) 25 rfl w.heap.size 3 i3 (.int .i64 0) 1 8 Try.underlying25 hi hz0 hz1 hz2 rfl (by decide) _ _ _ rfl (hoa.alloc _) ⟨wx.heap.size, 0, none⟩ 1 1 [.int .i64 (nh : Int)] rfl rfl (cell_one_new _ _ _) (off_ok nh) (by omega) (max_ok (by omega)) (by omega) (by first | omega | (simp; omega)) _ rfl ?_)
              intro ga cca w3 hoa3 hgra hata hlta
              have hoh3 := (hoh.alloc (.cells #[.int .i64 (nh : Int)] 3)).kept hgra (own_types hoh hoa (by decide))
              have hos3 := (hos.alloc (.cells #[.int .i64 (nh : Int)] 3)).kept hgra (own_types hos hoa (by decide))
              have hb3 : Below w.heap.size w w3 := (hbx.alloc (by omega) _).grown hgra (by simp; omega) (fun k h => (hoa.lt k h).1)
              have hs3 := hgra.size
              simp only [World.size_alloc] at hs3
              clear hoa hoh hos hbx hgra hata hlta
              go_wp2_with (at_builtin; refine wpList_append_lies _ rfl (.tmp 69) (.tmp 71) 35 rfl w.heap.size 9 i9 (.string ⟨#[]⟩) 1 16 Try.underlying35 hq9 hy0 hy1 hy2 rfl (by decide) _ _ _ rfl (hos3.alloc _) ⟨w3.heap.size, 0, none⟩ 1 1 [.string ⟨S.toArray⟩] rfl rfl (cell_one_new _ _ _) (str_ok S) (by omega) (max_ok (by omega)) (by omega) (by first | omega | (simp; omega)) _ rfl ?_)
              intro gs ccs w4 hos4 hgrs hats hlts
              have hoh4 := (hoh3.alloc (.cells #[.string ⟨S.toArray⟩] 9)).kept hgrs (own_types hoh3 hos3 (by decide))
              have hoa4 := (hoa3.alloc (.cells #[.string ⟨S.toArray⟩] 9)).kept hgrs (own_types hoa3 hos3 (by decide))
              have hb4 : Below w.heap.size w w4 := (hb3.alloc (by omega) _).grown hgrs (by simp; omega) (fun k h => (hos3.lt k h).1)
              have hs4 := hgrs.size
              simp only [World.size_alloc] at hs4
              clear hoa3 hoh3 hos3 hb3 hgrs hats hlts
              go_wp2_with (at_builtin; refine wpList_append_lies _ rfl (.tmp 73) (.tmp 77) 32 rfl w.heap.size 5 i5 (.int .u8 0) 1 1 Try.underlying32 hk5 hv0 hv1 hv2 rfl (by decide) _ _ _ rfl (hoh4.alloc _) ⟨w4.heap.size, 0, none⟩ 1 1 [.int .u8 (x0.toNat : Int)] rfl rfl (cell_one_new _ _ _) (one_ok x0) (by omega) (max_ok (by omega)) (by omega) (by first | omega | (simp; omega)) _ rfl ?_)
              intro gh chh w5 hoh5 hgrh hath hlth
              have hoa5 := (hoa4.alloc (.cells #[.int .u8 (x0.toNat : Int)] 5)).kept hgrh (own_types hoa4 hoh4 (by decide))
              have hos5 := (hos4.alloc (.cells #[.int .u8 (x0.toNat : Int)] 5)).kept hgrh (own_types hos4 hoh4 (by decide))
              have hb5 : Below w.heap.size w w5 := (hb4.alloc (by omega) _).grown hgrh (by simp; omega) (fun k h => (hoh4.lt k h).1)
              have HFIN : Hid (PlacesM text mask fold w.heap.size (r + 1) (.slice (some ⟨gh, 0, none⟩) (st.head.length + 1) chh) (.slice (some ⟨ga, 0, none⟩) (st.offs.length + 1) cca) (.slice (some ⟨gs, 0, none⟩) (st.offs.length + 1) ccs) w5 ∧ Below w.heap.size w w5 ∧ (stAt text.data.toList mask.data.toList fold (r + 1)).at_ = k + 1 + close text.data.toList k + 1) := by
                have e : stAt text.data.toList mask.data.toList fold (r + 1) = ⟨k + 1 + close text.data.toList k + 1, st.head ++ [x0], st.offs ++ [st.head.length], st.sets ++ [S]⟩ := by
                  show step _ _ _ (stAt text.data.toList mask.data.toList fold r) = _
                  have ha : st.at_ = k := HAT.out
                  rw [HST.out, step_place (by rw [ha, HS.out, HBR.out]; rfl), ha, HS.out, HHD.out, HNX.out]
                refine ⟨⟨?_, ?_, ?_⟩, hb5, by rw [e]⟩
                · rw [e]
                  exact own_cast hoh5 (show st.head.length + 1 = (st.head ++ [x0]).length by simp) (byteV_one st.head x0)
                · rw [e]
                  have en : (nh : Int) = (st.head.length : Int) := by rw [HNL.out]
                  rw [en] at hoa5
                  exact own_cast hoa5 (show st.offs.length + 1 = (st.offs ++ [st.head.length]).length by simp) (by simp [offV])
                · rw [e]
                  exact own_cast hos5 (show st.offs.length + 1 = (st.offs ++ [st.head.length]).length by simp) (by simp [strV])
              clear hoh5 hgrh hath hlth hoa4 hos4 hoh4 hb4 hoa5 hos5 hb5
              go_wp2
              go_roundw
              case rel => exact ⟨r + 1, k + 1 + close text.data.toList k + 1, some ⟨gh, 0, none⟩, st.head.length + 1, chh, some ⟨ga, 0, none⟩, st.offs.length + 1, cca, some ⟨gs, 0, none⟩, ccs, by have := HJ.out; go_num, by omega, HFIN.out.2.2, HRD1.out, by have := HNL.out; have := HNH.out; omega, by have := HNP.out; omega, rfl, rfl, rfl, HFIN.out.1, HFIN.out.2.1⟩
              case measure => simp [intOf]; omega
            · have t2 : ((text[j].toNat : Int) != 93) = true := by simpa using h93
              have HN2 : Hid ((93 : UInt8) ∉ (text.data.toList.drop (k + 1)).take (j + 1 - (k + 1))) := no93_step hj0 hjl HN.out h93
              clear h93
              go_wp2
              go_round
              case rel => exact ⟨j + 1, by omega, by omega, by go_num, HN2.out⟩
              case measure => simp [intOf]; omega
          · exact (close_no HC1.out hjl HN.out).elim
      · have t0 : ((mask[k].toNat : Int) == 0) = false := by simpa using h0
        obtain ⟨hbr, hch, hnx⟩ := chars_plain hlt hltm h0
        obtain ⟨S, hS⟩ : ∃ S, setL fold (charsOf text.data.toList mask.data.toList k) = S := ⟨_, rfl⟩
        have HS : Hid (setL fold (charsOf text.data.toList mask.data.toList k) = S) := hS
        have hSl := setL_length fold (charsOf text.data.toList mask.data.toList k)
        rw [hS] at hSl
        clear hS
        rw [hch] at hSl
        have hSl2 : S.length ≤ 2 := hSl
        obtain ⟨x0, hx0⟩ : ∃ x, text[k] = x := ⟨_, rfl⟩
        have HBR : Hid (isBr mask.data.toList k = false) := hbr
        have HNX : Hid (nextOf text.data.toList mask.data.toList k = k + 1) := hnx
        have HHD : Hid ((charsOf text.data.toList mask.data.toList k).headD 0 = x0) := by show _ = _; rw [hch, ← hx0]; rfl
        have HXS : Hid ((text.extract k (k + 1)).size = 1) := by
          show _ = _
          rw [(ext_chars text k (k + 1) (by omega)).2]; omega
        have HSX : Hid (setL fold (text.extract k (k + 1)).data.toList = S) := by
          show _ = _
          rw [ext_one text k hlt, ← hch]; exact HS.out
        clear h0 hbr hch hnx hSl
        have j1 : (0 : Int) ≤ (k : Int) := by omega
        have j2 : (k : Int) ≤ (k : Int) + 1 := by omega
        have j3 : (k : Int) + 1 ≤ (text.size : Int) := by omega
        go_wp2_with fail
        refine (placeSet_at _ fold _ (by have := HXS.out; omega) (by have := HXS.out; omega) S HSX.out).mono ?_
        rintro e wx ⟨rfl, hbx0⟩
        have hoh := own_below hoh0 hbx0
        have hoa := own_below hoa0 hbx0
        have hos := own_below hos0 hbx0
        have hwo := HB.out.size
        have hbx : Below w.heap.size w wx := HB.out.trans (hbx0.mono hwo)
        have hsx := hbx0.size
        clear hbx0
        by_cases h1 : 1 < S.length
        · have t1 : decide ((1 : Int) < (S.length : Int)) = true := decide_eq_true (by omega)
          have t1' : (1 : Int) < (S.length : Int) := by omega
          go_wp2_with (at_builtin; refine wpList_append_lies _ rfl (.tmp 64) (.tmp 67) 25 rfl w.heap.size 3 i3 (.int .i64 0) 1 8 Try.underlying25 hi hz0 hz1 hz2 rfl (by decide) _ _ _ rfl (hoa.alloc _) ⟨wx.heap.size, 0, none⟩ 1 1 [.int .i64 (nh : Int)] rfl rfl (cell_one_new _ _ _) (off_ok nh) (by omega) (max_ok (by omega)) (by omega) (by first | omega | (simp; omega)) _ rfl ?_)
          intro ga cca w3 hoa3 hgra hata hlta
          have hoh3 := (hoh.alloc (.cells #[.int .i64 (nh : Int)] 3)).kept hgra (own_types hoh hoa (by decide))
          have hos3 := (hos.alloc (.cells #[.int .i64 (nh : Int)] 3)).kept hgra (own_types hos hoa (by decide))
          have hb3 : Below w.heap.size w w3 := (hbx.alloc (by omega) _).grown hgra (by simp; omega) (fun k h => (hoa.lt k h).1)
          have hs3 := hgra.size
          simp only [World.size_alloc] at hs3
          clear hoa hoh hos hbx hgra hata hlta
          go_wp2_with (at_builtin; refine wpList_append_lies _ rfl (.tmp 69) (.tmp 71) 35 rfl w.heap.size 9 i9 (.string ⟨#[]⟩) 1 16 Try.underlying35 hq9 hy0 hy1 hy2 rfl (by decide) _ _ _ rfl (hos3.alloc _) ⟨w3.heap.size, 0, none⟩ 1 1 [.string ⟨S.toArray⟩] rfl rfl (cell_one_new _ _ _) (str_ok S) (by omega) (max_ok (by omega)) (by omega) (by first | omega | (simp; omega)) _ rfl ?_)
          intro gs ccs w4 hos4 hgrs hats hlts
          have hoh4 := (hoh3.alloc (.cells #[.string ⟨S.toArray⟩] 9)).kept hgrs (own_types hoh3 hos3 (by decide))
          have hoa4 := (hoa3.alloc (.cells #[.string ⟨S.toArray⟩] 9)).kept hgrs (own_types hoa3 hos3 (by decide))
          have hb4 : Below w.heap.size w w4 := (hb3.alloc (by omega) _).grown hgrs (by simp; omega) (fun k h => (hos3.lt k h).1)
          have hs4 := hgrs.size
          simp only [World.size_alloc] at hs4
          clear hoa3 hoh3 hos3 hb3 hgrs hats hlts
          go_wp2_with (at_builtin; refine wpList_append_lies _ rfl (.tmp 73) (.tmp 77) 32 rfl w.heap.size 5 i5 (.int .u8 0) 1 1 Try.underlying32 hk5 hv0 hv1 hv2 rfl (by decide) _ _ _ rfl (hoh4.alloc _) ⟨w4.heap.size, 0, none⟩ 1 1 [.int .u8 (x0.toNat : Int)] rfl rfl (cell_one_new _ _ _) (one_ok x0) (by omega) (max_ok (by omega)) (by omega) (by first | omega | (simp; omega)) _ rfl ?_)
          intro gh chh w5 hoh5 hgrh hath hlth
          have hoa5 := (hoa4.alloc (.cells #[.int .u8 (x0.toNat : Int)] 5)).kept hgrh (own_types hoa4 hoh4 (by decide))
          have hos5 := (hos4.alloc (.cells #[.int .u8 (x0.toNat : Int)] 5)).kept hgrh (own_types hos4 hoh4 (by decide))
          have hb5 : Below w.heap.size w w5 := (hb4.alloc (by omega) _).grown hgrh (by simp; omega) (fun k h => (hoh4.lt k h).1)
          have HFIN : Hid (PlacesM text mask fold w.heap.size (r + 1) (.slice (some ⟨gh, 0, none⟩) (st.head.length + 1) chh) (.slice (some ⟨ga, 0, none⟩) (st.offs.length + 1) cca) (.slice (some ⟨gs, 0, none⟩) (st.offs.length + 1) ccs) w5 ∧ Below w.heap.size w w5 ∧ (stAt text.data.toList mask.data.toList fold (r + 1)).at_ = k + 1) := by
            have e : stAt text.data.toList mask.data.toList fold (r + 1) = ⟨k + 1, st.head ++ [x0], st.offs ++ [st.head.length], st.sets ++ [S]⟩ := by
              show step _ _ _ (stAt text.data.toList mask.data.toList fold r) = _
              have ha : st.at_ = k := HAT.out
              rw [HST.out, step_place (by rw [ha, HS.out, HBR.out]; simpa using h1), ha, HS.out, HHD.out, HNX.out]
            refine ⟨⟨?_, ?_, ?_⟩, hb5, by rw [e]⟩
            · rw [e]
              exact own_cast hoh5 (show st.head.length + 1 = (st.head ++ [x0]).length by simp) (byteV_one st.head x0)
            · rw [e]
              have en : (nh : Int) = (st.head.length : Int) := by rw [HNL.out]
              rw [en] at hoa5
              exact own_cast hoa5 (show st.offs.length + 1 = (st.offs ++ [st.head.length]).length by simp) (by simp [offV])
            · rw [e]
              exact own_cast hos5 (show st.offs.length + 1 = (st.offs ++ [st.head.length]).length by simp) (by simp [strV])
          clear hoh5 hgrh hath hlth hoa4 hos4 hoh4 hb4 hoa5 hos5 hb5
          go_wp2
          go_roundw
          case rel => exact ⟨r + 1, k + 1, some ⟨gh, 0, none⟩, st.head.length + 1, chh, some ⟨ga, 0, none⟩, st.offs.length + 1, cca, some ⟨gs, 0, none⟩, ccs, by go_num, by omega, HFIN.out.2.2, HRD1.out, by have := HNL.out; have := HNH.out; omega, by have := HNP.out; omega, rfl, rfl, rfl, HFIN.out.1, HFIN.out.2.1⟩
          case measure => simp [intOf]; omega
        · have t1 : decide ((1 : Int) < (S.length : Int)) = false := decide_eq_false (by omega)
          have t1' : (S.length : Int) ≤ 1 := by omega
          go_wp2_with (at_builtin; refine wpList_append_lies _ rfl (.tmp 73) (.tmp 77) 32 rfl w.heap.size 5 i5 (.int .u8 0) 1 1 Try.underlying32 hk5 hv0 hv1 hv2 rfl (by decide) _ _ _ rfl (hoh.alloc _) ⟨wx.heap.size, 0, none⟩ 1 1 [.int .u8 (x0.toNat : Int)] rfl rfl (cell_one_new _ _ _) (one_ok x0) (by omega) (max_ok (by omega)) (by omega) (by first | omega | (simp; omega)) _ rfl ?_)
          intro gh chh w5 hoh5 hgrh hath hlth
          have hoa5 := (hoa.alloc (.cells #[.int .u8 (x0.toNat : Int)] 5)).kept hgrh (own_types hoa hoh (by decide))
          have hos5 := (hos.alloc (.cells #[.int .u8 (x0.toNat : Int)] 5)).kept hgrh (own_types hos hoh (by decide))
          have hb5 : Below w.heap.size w w5 := (hbx.alloc (by omega) _).grown hgrh (by simp; omega) (fun k h => (hoh.lt k h).1)
          have HFIN : Hid (PlacesM text mask fold w.heap.size (r + 1) (.slice (some ⟨gh, 0, none⟩) (st.head.length + 1) chh) (.slice aa na ca) (.slice as_ na cs) w5 ∧ Below w.heap.size w w5 ∧ (stAt text.data.toList mask.data.toList fold (r + 1)).at_ = k + 1) := by
            have e : stAt text.data.toList mask.data.toList fold (r + 1) = ⟨k + 1, st.head ++ [x0], st.offs, st.sets⟩ := by
              show step _ _ _ (stAt text.data.toList mask.data.toList fold r) = _
              have ha : st.at_ = k := HAT.out
              rw [HST.out, step_none (by rw [ha, HS.out, HBR.out]; simpa using h1), ha, HHD.out, HNX.out]
            refine ⟨⟨?_, ?_, ?_⟩, hb5, by rw [e]⟩
            · rw [e]
              exact own_cast hoh5 (show st.head.length + 1 = (st.head ++ [x0]).length by simp) (byteV_one st.head x0)
            · rw [e]; exact hoa5
            · rw [e]; exact hos5
          clear hoh5 hgrh hath hlth hoa hos hoh hbx hoa5 hos5 hb5
          go_wp2
          go_roundw
          case rel => exact ⟨r + 1, k + 1, some ⟨gh, 0, none⟩, st.head.length + 1, chh, aa, na, ca, as_, cs, by go_num, by omega, HFIN.out.2.2, HRD1.out, by have := HNL.out; have := HNH.out; omega, by omega, rfl, rfl, rfl, HFIN.out.1, HFIN.out.2.1⟩
          case measure => simp [intOf]; omega
    · have HFIN : Hid (¬ (stAt text.data.toList mask.data.toList fold r).at_ < text.data.toList.length) := by
        show ¬ _
        rw [hat, ← Lib.size_eq]; exact hlt
      have HP : Hid (PlacesM text mask fold w.heap.size r (.slice ah nh ch) (.slice aa na ca) (.slice as_ na cs) wo) := hP
      clear hat hrd hb hnh hP bnd
      go_wp2
      go_ret3
      exact ⟨_, _, _, r, rfl, HRD.out, HFIN.out, HP.out, HB.out⟩
end Go.Proofs.Qxb6601350a
