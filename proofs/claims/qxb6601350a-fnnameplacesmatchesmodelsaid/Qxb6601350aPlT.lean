/-
  SEAT b6601350a: THE WALK OF namePlaces, fold true (the round's remainder stands twice, by program: a bracket, a byte).
-/
import Derived.Test.Qxb6601350aPl0
namespace Go.Proofs.Qxb6601350a
open Go.RowKit

set_option maxHeartbeats 8000000 in
theorem namePlaces_true (text mask : ByteArray) (w : World) (hs : text.size ≤ 524288) (hm : mask.size = text.size) (hF : Fit text.data.toList mask.data.toList) :
    Calls Try.prog 32 #[.string text, .string mask, .bool true] w fun e w' => ∃ vh vp r, e = .returned (.tuple #[vh, vp]) ∧ Rounds text.data.toList mask.data.toList true r ∧ ¬ (stAt text.data.toList mask.data.toList true r).at_ < text.data.toList.length ∧ Places text mask true w.heap.size r vh vp w' ∧ Below w.heap.size w w' := by
  have HF : Hid (Fit text.data.toList mask.data.toList) := hF
  have HM : Hid (mask.size = text.size) := hm
  have hm1 : mask.size ≤ text.size := by omega
  have hm2 : text.size ≤ mask.size := by omega
  obtain ⟨i0, hi, hz0, hz1, hz2⟩ := info_parts Try.info5
  obtain ⟨i1, hj, hy0, hy1, hy2⟩ := info_parts Try.info53
  clear hF hm
  go_enter Try.func32, Try.ntmps32
  go_wp2
  go_loopw [6, 7, 8] (fun vh vp i wr => ∃ (r k : Nat) (ah : Option Addr) (nh ch : Nat) (ap : Option Addr) (np cp : Nat), i = .int .i64 k ∧ k ≤ text.size ∧ (stAt text.data.toList mask.data.toList true r).at_ = k ∧ Rounds text.data.toList mask.data.toList true r ∧ nh = r ∧ np ≤ r ∧
      vh = .slice ah nh ch ∧ vp = .slice ap np cp ∧ Places text mask true w.heap.size r (.slice ah nh ch) (.slice ap np cp) wr ∧ Below w.heap.size w wr)
    (fun _ _ i _ => text.size - (intOf i).toNat)
  case atStart => exact ⟨0, 0, none, 0, 0, none, 0, 0, rfl, Nat.zero_le _, rfl, fun _ h => by omega, rfl, Nat.le_refl _, rfl, rfl, ⟨World.ownsRow_nil _ _ _ _, World.ownsRow_nil _ _ _ _⟩, Below.refl _ _⟩
  case round =>
    rename World => wo
    obtain ⟨r, k, ah, nh, ch, ap, np, cp, rfl, hk, hat, hrd, hnh, hnp, rfl, rfl, hP, hb⟩ := hrel
    have HRD : Hid (Rounds text.data.toList mask.data.toList true r) := hrd
    have HB : Hid (Below w.heap.size w wo) := hb
    have bnd := st_bounds text.data.toList mask.data.toList true r
    by_cases hlt : k < text.size
    · have HRD1 : Hid (Rounds text.data.toList mask.data.toList true (r + 1)) := rounds_more hrd (by rw [hat, ← Lib.size_eq]; exact hlt)
      have HG : Hid (Good text.data.toList mask.data.toList k) := by
        show Good _ _ _
        rw [← hat]
        exact HF.out true r (fun r' hr => HRD1.out r' (by omega))
      obtain ⟨hoh0, hop0⟩ := hP
      obtain ⟨st, hst⟩ : ∃ st, stAt text.data.toList mask.data.toList true r = st := ⟨_, rfl⟩
      rw [hst] at hoh0 hop0 hat bnd
      have HST : Hid (stAt text.data.toList mask.data.toList true r = st) := hst
      have HAT : Hid (st.at_ = k) := hat
      have HNH : Hid (nh = r) := hnh
      have HNL : Hid (nh = st.head.length) := by show _ = _; omega
      have HSO : Hid (st.sets.length = st.offs.length) := bnd.2.2.1
      have HNP : Hid (st.offs.length ≤ r) := bnd.2.1
      have hrk : r ≤ k := by omega
      have hhl : st.head.length ≤ k := by omega
      have hol : st.offs.length ≤ k := by omega
      have hnk : nh ≤ k := by omega
      clear hat hrd hb hnh hst bnd
      have hltm : k < mask.size := by omega
      by_cases h0 : (mask[k].toNat : Int) = 0
      · have t0 : ((mask[k].toNat : Int) == 0) = true := by simpa using h0
        obtain ⟨hbr, hch, hnx⟩ := chars_br (text := text) hltm h0
        obtain ⟨h91, hc0, hc1, hc2, hc3⟩ := HG.out hbr
        have hc2' : k + 1 + close text.data.toList k < text.size := by rw [Lib.size_eq]; exact hc2
        rw [getD_at text k hlt] at h91
        rw [getD_at mask _ (by omega)] at hc3
        have hci : Lib.indexByte (text.data.toList.drop (k + 1)) 93 = ((close text.data.toList k : Nat) : Int) := by unfold close; omega
        have hcs : (⟨((text.data.toList.drop (k + 1)).take (close text.data.toList k)).toArray⟩ : ByteArray).size = close text.data.toList k := by
          rw [size_of, List.length_take, List.length_drop, ← Lib.size_eq]; omega
        have HBR : Hid (isBr mask.data.toList k = true) := hbr
        have HXL : Hid ((⟨((text.data.toList.drop (k + 1)).take (close text.data.toList k)).toArray⟩ : ByteArray).data.toList = charsOf text.data.toList mask.data.toList k) := by
          show _ = _
          rw [hch]
        have HNX : Hid (nextOf text.data.toList mask.data.toList k = k + 1 + (⟨((text.data.toList.drop (k + 1)).take (close text.data.toList k)).toArray⟩ : ByteArray).size + 1) := by
          show _ = _
          rw [hcs]; exact hnx
        have HNB : Hid (∀ w : World, Calls Try.prog 36 #[.string text, .string mask, .int .i64 (k : Int)] w fun e w' => IsSet ⟨((text.data.toList.drop (k + 1)).take (close text.data.toList k)).toArray⟩ e ∧ w = w') := fun w => nameBracket_any text mask k (close text.data.toList k) w hs HM.out hlt h91 hc0 hci hc2' hc3
        have hX0 : 0 < (⟨((text.data.toList.drop (k + 1)).take (close text.data.toList k)).toArray⟩ : ByteArray).size := by rw [hcs]; exact hc0
        have hX2 : k + 1 + (⟨((text.data.toList.drop (k + 1)).take (close text.data.toList k)).toArray⟩ : ByteArray).size < text.size := by rw [hcs]; exact hc2'
        clear h0 hbr hch hnx h91 hc0 hc1 hc2 hc3 hc2' hci hcs
        generalize (⟨((text.data.toList.drop (k + 1)).take (close text.data.toList k)).toArray⟩ : ByteArray) = X at *
        have hX1 : X.size ≤ 524288 := by omega
        have j1 : (0 : Int) ≤ (k : Int) := by omega
        have j2 : (k : Int) ≤ (k : Int) + 1 := by omega
        have j3 : (k : Int) + 1 ≤ (text.size : Int) := by omega
        have j4 : (k : Int) < (mask.size : Int) := by omega
        go_wp2
        go_quiet (fail)
        go_wp2_with (go_at_call 36; refine (HNB.out _).mono ?_; rintro e w' ⟨⟨bb, rfl⟩, rfl⟩)
        -- from the conversion on: X is the unit's characters
        obtain ⟨capX, w1, hcv, hcell, hbl, hsz1⟩ := bytes_laid X ((wo.drewN nq).alloc (.cells #[.slice none 0 0] 32))
        have esz : ((wo.drewN nq).alloc (.cells #[.slice none 0 0] 32)).heap.size = wo.heap.size + 1 := by show (wo.heap.push _).size = _; simp
        rw [esz] at hcv hcell hbl hsz1
        have hE0 : Each wo.heap.size (wo.heap.size + 2) (setL true (X.data.toList.take 0)) w1 := each_start (w := wo.drewN nq) rfl hbl
        have hb1 : Below wo.heap.size wo w1 := ((bel_drewN (Below.refl _ wo) nq).alloc (Nat.le_refl _) _).trans (hbl.mono (show wo.heap.size ≤ wo.heap.size + 1 from Nat.le_succ _))
        have HB1 : Hid (Below wo.heap.size wo w1) := hb1
        have HC1 : Hid (∀ j (h : j < X.size), w1.cell? ⟨wo.heap.size + 1, j, none⟩ = some (.int .u8 (X[j].toNat : Int))) := hcell
        clear hcell hbl hb1 esz
        rw [hcv]
        simp only [Result.andThen]
        rw [Oper.upon_value]
        clear hcv
        go_wp2
        go_loopw [40] (fun i wx => ∃ m : Nat, m ≤ X.size ∧ i = .int .i64 m ∧ Each wo.heap.size (wo.heap.size + 2) (setL true (X.data.toList.take m)) wx ∧ Kept wo.heap.size (wo.heap.size + 2) w1 wx) (fun i _ => X.size - (intOf i).toNat)
        case atStart => exact ⟨0, Nat.zero_le _, rfl, hE0, Kept.refl _ _ _⟩
        case round =>
          obtain ⟨m, hm, rfl, hE, hK⟩ := hrel
          have HE : Hid (Each wo.heap.size (wo.heap.size + 2) (setL true (X.data.toList.take m)) wr) := hE
          have HK : Hid (Kept wo.heap.size (wo.heap.size + 2) w1 wr) := hK
          have hszk := hK.size
          clear hE hK hE0
          by_cases hmx : m < X.size
          · have hcX : wr.cell? ⟨wo.heap.size + 1, m, none⟩ = some (.int .u8 (X[m].toNat : Int)) := (World.cell?_of_block (HK.out.block (wo.heap.size + 1) (by omega) (by omega))).trans (HC1.out m hmx)
            have HSL : Hid ((setL true (X.data.toList.take m)).length ≤ 2 * X.size) := by
              have h1 := setL_length true (X.data.toList.take m)
              have h2 : (X.data.toList.take m).length ≤ X.size := by rw [List.length_take, ← Lib.size_eq]; omega
              show _ ≤ _
              omega
            go_wp2_with fail
            refine (add_any wo.heap.size (wo.heap.size + 2) (setL true (X.data.toList.take m)) X[m] _ (by have := HSL.out; omega) (by omega) (by omega) HE.out).mono ?_
            rintro e wa ⟨rfl, hE1, hK1⟩
            have HE1 : Hid (Each wo.heap.size (wo.heap.size + 2) (addB (setL true (X.data.toList.take m)) X[m]) wa) := hE1
            have HK1 : Hid (Kept wo.heap.size (wo.heap.size + 2) w1 wa) := HK.out.trans hK1
            have hsza := hK1.size
            clear hE1 hK1 HE HK hcX
            go_wp2_with (go_at_call 39; refine (otherCase_at _ _).mono ?_; rintro e w' ⟨rfl, rfl⟩)
            refine (add_any wo.heap.size (wo.heap.size + 2) (addB (setL true (X.data.toList.take m)) X[m]) (other X[m]) _ (by have := HSL.out; have := addB_length (setL true (X.data.toList.take m)) X[m]; omega) (by omega) (by omega) HE1.out).mono ?_
            rintro e wb ⟨rfl, hE2, hK2⟩
            have HE2 : Hid (Each wo.heap.size (wo.heap.size + 2) (setL true (X.data.toList.take (m + 1))) wb) := each_fold hmx hE2
            have HK2 : Hid (Kept wo.heap.size (wo.heap.size + 2) w1 wb) := HK1.out.trans hK2
            clear hE2 hK2 HE1 HK1
            go_wp2
            go_roundw
            case rel => exact ⟨m + 1, by omega, by go_num, HE2.out, HK2.out⟩
            case measure => simp [intOf]; omega
          · obtain ⟨v, hBv, hownS⟩ := HE.out
            have hSe : setL true (X.data.toList.take m) = setL true (charsOf text.data.toList mask.data.toList k) := by
              rw [List.take_of_length_le (by rw [← Lib.size_eq]; omega), HXL.out]
            rw [hSe] at hownS
            have hSl := setL_length true (charsOf text.data.toList mask.data.toList k)
            have hSl2 : (charsOf text.data.toList mask.data.toList k).length = X.size := by rw [← HXL.out, ← Lib.size_eq]
            obtain ⟨x0, xr, hxS, hhd⟩ := set_first true (charsOf text.data.toList mask.data.toList k) (by omega)
            obtain ⟨S, hS⟩ : ∃ S, setL true (charsOf text.data.toList mask.data.toList k) = S := ⟨_, rfl⟩
            rw [hS] at hownS hSl hxS
            have HS : Hid (setL true (charsOf text.data.toList mask.data.toList k) = S) := hS
            have HSX : Hid (S = x0 :: xr) := hxS
            have HHD : Hid ((charsOf text.data.toList mask.data.toList k).headD 0 = x0) := hhd
            have hSpos : 0 < S.length := by rw [hxS]; simp
            have hSle : S.length ≤ 2 * X.size := by omega
            obtain ⟨ge, ce, hv, hge, hgel⟩ := hownS.form hSpos
            rw [hv] at hownS hBv
            have cB := cell_of_one hBv
            have c0 := own_first hownS hxS
            have hBw : Below wo.heap.size wo wr := HB1.out.trans (HK.out.below (by omega))
            have hoh := own_below hoh0 hBw
            have hop := own_below hop0 hBw
            have hwo := HB.out.size
            have HBW : Hid (Below w.heap.size w wr) := HB.out.trans (hBw.mono hwo)
            clear hSe hSl hSl2 hxS hhd hS hv HE hBw
            have hcvS := run_convert_bytes_back (P := Try.prog) wr 32 9 5 ⟨ge, 0, none⟩ ce S Try.underlying32 Try.underlying5 Try.underlying9 (own_cells hownS)
            have hnews := World.news_of_block (heap_alloc_new wr (.cells #[.int .i64 (nh : Int), .int .i64 0, .string ⟨S.toArray⟩] 53))
            have HNW : Hid (∀ j u, (#[Value.int .i64 (nh : Int), .int .i64 0, .string ⟨S.toArray⟩] : Array Value).toList[j]? = some u → (wr.alloc (.cells #[.int .i64 (nh : Int), .int .i64 0, .string ⟨S.toArray⟩] 53)).cell? ((⟨wr.heap.size, 0, none⟩ : Addr).add j) = some u) := hnews
            clear hnews
            go_wp2_with (at_builtin; refine wpList_append_lies _ rfl (.tmp 59) (.tmp 65) 49 rfl w.heap.size 53 i1 (.agg #[.int .i64 0, .int .i64 0, .string ⟨#[]⟩]) 3 32 Try.underlying49 hj hy0 hy1 hy2 rfl (by decide) _ _ _ rfl (hop.alloc _) ⟨wr.heap.size, 0, none⟩ 1 1 [.int .i64 (nh : Int), .int .i64 0, .string ⟨S.toArray⟩] rfl rfl HNW.out (three_ok nh S) (by omega) (max_ok (by omega)) (by omega) (by first | omega | (simp; omega)) _ rfl ?_)
            intro gp cpp w2 hop2 hgr2 hatp hltp
            have hapB : ∀ g, (Value.slice ap np cp).ownBlock = some g → g < wo.heap.size := fun g hg => (hop0.lt g hg).2
            have hB2 : w2.heap[wo.heap.size]? = some (.cells #[.slice (some ⟨ge, 0, none⟩) S.length ce] 32 (0, 0)) := by
              rw [hgr2.block wo.heap.size (by simp; omega) (fun e => by have := hapB _ e.symm; omega), Below.heap_alloc _ _ _ (by omega)]
              exact hBv
            have cB2 := cell_of_one hB2
            have hS2 := (hownS.alloc (.cells #[.int .i64 (nh : Int), .int .i64 0, .string ⟨S.toArray⟩] 53)).kept hgr2 (.inr (fun e => by have := hapB ge e.symm; omega))
            have c02 := own_first hS2 HSX.out
            have hoh2 := (hoh.alloc (.cells #[.int .i64 (nh : Int), .int .i64 0, .string ⟨S.toArray⟩] 53)).kept hgr2 (own_types hoh hop (by decide))
            have hb2 : Below w.heap.size w w2 := (HBW.out.alloc (by omega) _).grown hgr2 (by simp; omega) (fun k h => (hop0.lt k h).1)
            have hsz2 := hgr2.size
            simp only [World.size_alloc] at hsz2
            have HB2 : Hid (Below w.heap.size w w2) := hb2
            have HOP2 : Hid (w2.ownsRow w.heap.size 53 3 (.slice (some ⟨gp, 0, none⟩) (st.offs.length + 1) cpp) (st.offs.length + 1) (placesC st.offs st.sets ++ [.int .i64 (nh : Int), .int .i64 0, .string ⟨S.toArray⟩])) := hop2
            have HOH2 : Hid (w2.ownsRow w.heap.size 5 1 (.slice ah nh ch) st.head.length (st.head.map byteV)) := hoh2
            clear hop2 hgr2 hatp hltp hcvS hBv hS2 hB2 hownS hoh hop HNW hb2 hapB cB
            go_wp2_with (at_builtin; refine wpList_append_lies _ rfl (.tmp 67) (.tmp 71) 32 rfl w.heap.size 5 i0 (.int .u8 0) 1 1 Try.underlying32 hi hz0 hz1 hz2 rfl (by decide) _ _ _ rfl (hoh2.alloc _) ⟨w2.heap.size, 0, none⟩ 1 1 [byteV x0] rfl rfl (cell_one_new _ _ _) (one_ok x0) (by omega) (max_ok (by omega)) (by omega) (by first | omega | (simp; omega)) _ rfl ?_)
            intro gh chh w3 hoh3 hgr3 hath hlth
            have hop3 := (HOP2.out.alloc (.cells #[byteV x0] 5)).kept hgr3 (own_types HOP2.out HOH2.out (by decide))
            have hb3 : Below w.heap.size w w3 := (HB2.out.alloc (by omega) _).grown hgr3 (by simp; omega) (fun k h => (hoh2.lt k h).1)
            have HFIN : Hid (Places text mask true w.heap.size (r + 1) (.slice (some ⟨gh, 0, none⟩) (st.head.length + 1) chh) (.slice (some ⟨gp, 0, none⟩) (st.offs.length + 1) cpp) w3 ∧ Below w.heap.size w w3 ∧ (stAt text.data.toList mask.data.toList true (r + 1)).at_ = k + 1 + X.size + 1) := by
              have e : stAt text.data.toList mask.data.toList true (r + 1) = ⟨k + 1 + X.size + 1, st.head ++ [x0], st.offs ++ [st.head.length], st.sets ++ [S]⟩ := by
                show step _ _ _ (stAt text.data.toList mask.data.toList true r) = _
                have ha : st.at_ = k := HAT.out
                rw [HST.out, step_place (by rw [ha, HS.out, HBR.out]; rfl), ha, HS.out, HHD.out, HNX.out]
              refine ⟨⟨?_, ?_⟩, hb3, by rw [e]⟩
              · rw [e]
                have := own_cast hoh3 (show st.head.length + 1 = (st.head ++ [x0]).length by simp) (byteV_one st.head x0)
                exact this
              · rw [e]
                have en : (nh : Int) = (st.head.length : Int) := by rw [HNL.out]
                rw [en] at hop3
                exact own_cast hop3 (show st.offs.length + 1 = (st.offs ++ [st.head.length]).length by simp) (placesC_snoc HSO.out st.head.length S)
            clear hoh3 hgr3 hath hlth hop3 hb3 HOP2 HOH2 HB2 hoh2 cB2 c02
            go_wp2
            go_roundw
            case rel => exact ⟨r + 1, k + 1 + X.size + 1, some ⟨gh, 0, none⟩, st.head.length + 1, chh, some ⟨gp, 0, none⟩, st.offs.length + 1, cpp, by go_num, by omega, HFIN.out.2.2, HRD1.out, by have := HNL.out; have := HNH.out; omega, by have := HNP.out; omega, rfl, rfl, HFIN.out.1, HFIN.out.2.1⟩
            case measure => simp [intOf]; omega
      · have t0 : ((mask[k].toNat : Int) == 0) = false := by simpa using h0
        obtain ⟨hbr, hch, hnx⟩ := chars_plain hlt hltm h0
        have HBR : Hid (isBr mask.data.toList k = false) := hbr
        have HNX : Hid (nextOf text.data.toList mask.data.toList k = k + 1) := hnx
        have HXL : Hid ((text.extract k (k + 1)).data.toList = charsOf text.data.toList mask.data.toList k) := by
          show _ = _
          rw [hch, ext_one text k hlt]
        have HXS : Hid ((text.extract k (k + 1)).size = 1) := by
          show _ = _
          rw [Lib.size_eq, ext_one text k hlt]; rfl
        clear h0 hbr hch hnx
        have j1 : (0 : Int) ≤ (k : Int) := by omega
        have j2 : (k : Int) ≤ (k : Int) + 1 := by omega
        have j3 : (k : Int) + 1 ≤ (text.size : Int) := by omega
        have j4 : (k : Int) < (mask.size : Int) := by omega
        go_wp2
        go_quiet (fail)
        go_wp2_with fail
        generalize text.extract k (k + 1) = X at *
        have hX1 : X.size ≤ 524288 := by have := HXS.out; omega
        have hX0 : 0 < X.size := by have := HXS.out; omega
        -- from the conversion on: X is the unit's characters
        obtain ⟨capX, w1, hcv, hcell, hbl, hsz1⟩ := bytes_laid X ((wo.drewN nq).alloc (.cells #[.slice none 0 0] 32))
        have esz : ((wo.drewN nq).alloc (.cells #[.slice none 0 0] 32)).heap.size = wo.heap.size + 1 := by show (wo.heap.push _).size = _; simp
        rw [esz] at hcv hcell hbl hsz1
        have hE0 : Each wo.heap.size (wo.heap.size + 2) (setL true (X.data.toList.take 0)) w1 := each_start (w := wo.drewN nq) rfl hbl
        have hb1 : Below wo.heap.size wo w1 := ((bel_drewN (Below.refl _ wo) nq).alloc (Nat.le_refl _) _).trans (hbl.mono (show wo.heap.size ≤ wo.heap.size + 1 from Nat.le_succ _))
        have HB1 : Hid (Below wo.heap.size wo w1) := hb1
        have HC1 : Hid (∀ j (h : j < X.size), w1.cell? ⟨wo.heap.size + 1, j, none⟩ = some (.int .u8 (X[j].toNat : Int))) := hcell
        clear hcell hbl hb1 esz
        rw [hcv]
        simp only [Result.andThen]
        rw [Oper.upon_value]
        clear hcv
        go_wp2
        go_loopw [40] (fun i wx => ∃ m : Nat, m ≤ X.size ∧ i = .int .i64 m ∧ Each wo.heap.size (wo.heap.size + 2) (setL true (X.data.toList.take m)) wx ∧ Kept wo.heap.size (wo.heap.size + 2) w1 wx) (fun i _ => X.size - (intOf i).toNat)
        case atStart => exact ⟨0, Nat.zero_le _, rfl, hE0, Kept.refl _ _ _⟩
        case round =>
          obtain ⟨m, hm, rfl, hE, hK⟩ := hrel
          have HE : Hid (Each wo.heap.size (wo.heap.size + 2) (setL true (X.data.toList.take m)) wr) := hE
          have HK : Hid (Kept wo.heap.size (wo.heap.size + 2) w1 wr) := hK
          have hszk := hK.size
          clear hE hK hE0
          by_cases hmx : m < X.size
          · have hcX : wr.cell? ⟨wo.heap.size + 1, m, none⟩ = some (.int .u8 (X[m].toNat : Int)) := (World.cell?_of_block (HK.out.block (wo.heap.size + 1) (by omega) (by omega))).trans (HC1.out m hmx)
            have HSL : Hid ((setL true (X.data.toList.take m)).length ≤ 2 * X.size) := by
              have h1 := setL_length true (X.data.toList.take m)
              have h2 : (X.data.toList.take m).length ≤ X.size := by rw [List.length_take, ← Lib.size_eq]; omega
              show _ ≤ _
              omega
            go_wp2_with fail
            refine (add_any wo.heap.size (wo.heap.size + 2) (setL true (X.data.toList.take m)) X[m] _ (by have := HSL.out; omega) (by omega) (by omega) HE.out).mono ?_
            rintro e wa ⟨rfl, hE1, hK1⟩
            have HE1 : Hid (Each wo.heap.size (wo.heap.size + 2) (addB (setL true (X.data.toList.take m)) X[m]) wa) := hE1
            have HK1 : Hid (Kept wo.heap.size (wo.heap.size + 2) w1 wa) := HK.out.trans hK1
            have hsza := hK1.size
            clear hE1 hK1 HE HK hcX
            go_wp2_with (go_at_call 39; refine (otherCase_at _ _).mono ?_; rintro e w' ⟨rfl, rfl⟩)
            refine (add_any wo.heap.size (wo.heap.size + 2) (addB (setL true (X.data.toList.take m)) X[m]) (other X[m]) _ (by have := HSL.out; have := addB_length (setL true (X.data.toList.take m)) X[m]; omega) (by omega) (by omega) HE1.out).mono ?_
            rintro e wb ⟨rfl, hE2, hK2⟩
            have HE2 : Hid (Each wo.heap.size (wo.heap.size + 2) (setL true (X.data.toList.take (m + 1))) wb) := each_fold hmx hE2
            have HK2 : Hid (Kept wo.heap.size (wo.heap.size + 2) w1 wb) := HK1.out.trans hK2
            clear hE2 hK2 HE1 HK1
            go_wp2
            go_roundw
            case rel => exact ⟨m + 1, by omega, by go_num, HE2.out, HK2.out⟩
            case measure => simp [intOf]; omega
          · obtain ⟨v, hBv, hownS⟩ := HE.out
            have hSe : setL true (X.data.toList.take m) = setL true (charsOf text.data.toList mask.data.toList k) := by
              rw [List.take_of_length_le (by rw [← Lib.size_eq]; omega), HXL.out]
            rw [hSe] at hownS
            have hSl := setL_length true (charsOf text.data.toList mask.data.toList k)
            have hSl2 : (charsOf text.data.toList mask.data.toList k).length = X.size := by rw [← HXL.out, ← Lib.size_eq]
            obtain ⟨x0, xr, hxS, hhd⟩ := set_first true (charsOf text.data.toList mask.data.toList k) (by omega)
            obtain ⟨S, hS⟩ : ∃ S, setL true (charsOf text.data.toList mask.data.toList k) = S := ⟨_, rfl⟩
            rw [hS] at hownS hSl hxS
            have HS : Hid (setL true (charsOf text.data.toList mask.data.toList k) = S) := hS
            have HSX : Hid (S = x0 :: xr) := hxS
            have HHD : Hid ((charsOf text.data.toList mask.data.toList k).headD 0 = x0) := hhd
            have hSpos : 0 < S.length := by rw [hxS]; simp
            have hSle : S.length ≤ 2 * X.size := by omega
            obtain ⟨ge, ce, hv, hge, hgel⟩ := hownS.form hSpos
            rw [hv] at hownS hBv
            have cB := cell_of_one hBv
            have c0 := own_first hownS hxS
            have hBw : Below wo.heap.size wo wr := HB1.out.trans (HK.out.below (by omega))
            have hoh := own_below hoh0 hBw
            have hop := own_below hop0 hBw
            have hwo := HB.out.size
            have HBW : Hid (Below w.heap.size w wr) := HB.out.trans (hBw.mono hwo)
            clear hSe hSl hSl2 hxS hhd hS hv HE hBw
            by_cases h1 : 1 < S.length
            · have t1 : decide ((1 : Int) < (S.length : Int)) = true := decide_eq_true (by omega)
              have hcvS := run_convert_bytes_back (P := Try.prog) wr 32 9 5 ⟨ge, 0, none⟩ ce S Try.underlying32 Try.underlying5 Try.underlying9 (own_cells hownS)
              have hnews := World.news_of_block (heap_alloc_new wr (.cells #[.int .i64 (nh : Int), .int .i64 0, .string ⟨S.toArray⟩] 53))
              have HNW : Hid (∀ j u, (#[Value.int .i64 (nh : Int), .int .i64 0, .string ⟨S.toArray⟩] : Array Value).toList[j]? = some u → (wr.alloc (.cells #[.int .i64 (nh : Int), .int .i64 0, .string ⟨S.toArray⟩] 53)).cell? ((⟨wr.heap.size, 0, none⟩ : Addr).add j) = some u) := hnews
              clear hnews
              go_wp2_with (at_builtin; refine wpList_append_lies _ rfl (.tmp 59) (.tmp 65) 49 rfl w.heap.size 53 i1 (.agg #[.int .i64 0, .int .i64 0, .string ⟨#[]⟩]) 3 32 Try.underlying49 hj hy0 hy1 hy2 rfl (by decide) _ _ _ rfl (hop.alloc _) ⟨wr.heap.size, 0, none⟩ 1 1 [.int .i64 (nh : Int), .int .i64 0, .string ⟨S.toArray⟩] rfl rfl HNW.out (three_ok nh S) (by omega) (max_ok (by omega)) (by omega) (by first | omega | (simp; omega)) _ rfl ?_)
              intro gp cpp w2 hop2 hgr2 hatp hltp
              have hapB : ∀ g, (Value.slice ap np cp).ownBlock = some g → g < wo.heap.size := fun g hg => (hop0.lt g hg).2
              have hB2 : w2.heap[wo.heap.size]? = some (.cells #[.slice (some ⟨ge, 0, none⟩) S.length ce] 32 (0, 0)) := by
                rw [hgr2.block wo.heap.size (by simp; omega) (fun e => by have := hapB _ e.symm; omega), Below.heap_alloc _ _ _ (by omega)]
                exact hBv
              have cB2 := cell_of_one hB2
              have hS2 := (hownS.alloc (.cells #[.int .i64 (nh : Int), .int .i64 0, .string ⟨S.toArray⟩] 53)).kept hgr2 (.inr (fun e => by have := hapB ge e.symm; omega))
              have c02 := own_first hS2 HSX.out
              have hoh2 := (hoh.alloc (.cells #[.int .i64 (nh : Int), .int .i64 0, .string ⟨S.toArray⟩] 53)).kept hgr2 (own_types hoh hop (by decide))
              have hb2 : Below w.heap.size w w2 := (HBW.out.alloc (by omega) _).grown hgr2 (by simp; omega) (fun k h => (hop0.lt k h).1)
              have hsz2 := hgr2.size
              simp only [World.size_alloc] at hsz2
              have HB2 : Hid (Below w.heap.size w w2) := hb2
              have HOP2 : Hid (w2.ownsRow w.heap.size 53 3 (.slice (some ⟨gp, 0, none⟩) (st.offs.length + 1) cpp) (st.offs.length + 1) (placesC st.offs st.sets ++ [.int .i64 (nh : Int), .int .i64 0, .string ⟨S.toArray⟩])) := hop2
              have HOH2 : Hid (w2.ownsRow w.heap.size 5 1 (.slice ah nh ch) st.head.length (st.head.map byteV)) := hoh2
              clear hop2 hgr2 hatp hltp hcvS hBv hS2 hB2 hownS hoh hop HNW hb2 hapB cB
              go_wp2_with (at_builtin; refine wpList_append_lies _ rfl (.tmp 67) (.tmp 71) 32 rfl w.heap.size 5 i0 (.int .u8 0) 1 1 Try.underlying32 hi hz0 hz1 hz2 rfl (by decide) _ _ _ rfl (hoh2.alloc _) ⟨w2.heap.size, 0, none⟩ 1 1 [byteV x0] rfl rfl (cell_one_new _ _ _) (one_ok x0) (by omega) (max_ok (by omega)) (by omega) (by first | omega | (simp; omega)) _ rfl ?_)
              intro gh chh w3 hoh3 hgr3 hath hlth
              have hop3 := (HOP2.out.alloc (.cells #[byteV x0] 5)).kept hgr3 (own_types HOP2.out HOH2.out (by decide))
              have hb3 : Below w.heap.size w w3 := (HB2.out.alloc (by omega) _).grown hgr3 (by simp; omega) (fun k h => (hoh2.lt k h).1)
              have HFIN : Hid (Places text mask true w.heap.size (r + 1) (.slice (some ⟨gh, 0, none⟩) (st.head.length + 1) chh) (.slice (some ⟨gp, 0, none⟩) (st.offs.length + 1) cpp) w3 ∧ Below w.heap.size w w3 ∧ (stAt text.data.toList mask.data.toList true (r + 1)).at_ = k + 1) := by
                have e : stAt text.data.toList mask.data.toList true (r + 1) = ⟨k + 1, st.head ++ [x0], st.offs ++ [st.head.length], st.sets ++ [S]⟩ := by
                  show step _ _ _ (stAt text.data.toList mask.data.toList true r) = _
                  have ha : st.at_ = k := HAT.out
                  rw [HST.out, step_place (by rw [ha, HS.out, HBR.out]; simpa using h1), ha, HS.out, HHD.out, HNX.out]
                refine ⟨⟨?_, ?_⟩, hb3, by rw [e]⟩
                · rw [e]
                  have := own_cast hoh3 (show st.head.length + 1 = (st.head ++ [x0]).length by simp) (byteV_one st.head x0)
                  exact this
                · rw [e]
                  have en : (nh : Int) = (st.head.length : Int) := by rw [HNL.out]
                  rw [en] at hop3
                  exact own_cast hop3 (show st.offs.length + 1 = (st.offs ++ [st.head.length]).length by simp) (placesC_snoc HSO.out st.head.length S)
              clear hoh3 hgr3 hath hlth hop3 hb3 HOP2 HOH2 HB2 hoh2 cB2 c02
              go_wp2
              go_roundw
              case rel => exact ⟨r + 1, k + 1, some ⟨gh, 0, none⟩, st.head.length + 1, chh, some ⟨gp, 0, none⟩, st.offs.length + 1, cpp, by go_num, by omega, HFIN.out.2.2, HRD1.out, by have := HNL.out; have := HNH.out; omega, by have := HNP.out; omega, rfl, rfl, HFIN.out.1, HFIN.out.2.1⟩
              case measure => simp [intOf]; omega
            · have t1 : decide ((1 : Int) < (S.length : Int)) = false := decide_eq_false (by omega)
              go_wp2_with (at_builtin; refine wpList_append_lies _ rfl (.tmp 67) (.tmp 71) 32 rfl w.heap.size 5 i0 (.int .u8 0) 1 1 Try.underlying32 hi hz0 hz1 hz2 rfl (by decide) _ _ _ rfl (hoh.alloc _) ⟨wr.heap.size, 0, none⟩ 1 1 [byteV x0] rfl rfl (cell_one_new _ _ _) (one_ok x0) (by omega) (max_ok (by omega)) (by omega) (by first | omega | (simp; omega)) _ rfl ?_)
              intro gh chh w3 hoh3 hgr3 hath hlth
              have hop3 := (hop.alloc (.cells #[byteV x0] 5)).kept hgr3 (own_types hop hoh (by decide))
              have hb3 : Below w.heap.size w w3 := (HBW.out.alloc (by omega) _).grown hgr3 (by simp; omega) (fun k h => (hoh.lt k h).1)
              have HFIN : Hid (Places text mask true w.heap.size (r + 1) (.slice (some ⟨gh, 0, none⟩) (st.head.length + 1) chh) (.slice ap np cp) w3 ∧ Below w.heap.size w w3 ∧ (stAt text.data.toList mask.data.toList true (r + 1)).at_ = k + 1) := by
                have e : stAt text.data.toList mask.data.toList true (r + 1) = ⟨k + 1, st.head ++ [x0], st.offs, st.sets⟩ := by
                  show step _ _ _ (stAt text.data.toList mask.data.toList true r) = _
                  have ha : st.at_ = k := HAT.out
                  rw [HST.out, step_none (by rw [ha, HS.out, HBR.out]; simpa using h1), ha, HHD.out, HNX.out]
                refine ⟨⟨?_, ?_⟩, hb3, by rw [e]⟩
                · rw [e]
                  have := own_cast hoh3 (show st.head.length + 1 = (st.head ++ [x0]).length by simp) (byteV_one st.head x0)
                  exact this
                · rw [e]; exact hop3
              clear hoh3 hgr3 hath hlth hop3 hb3 hoh hop hownS hBv cB c0
              go_wp2
              go_roundw
              case rel => exact ⟨r + 1, k + 1, some ⟨gh, 0, none⟩, st.head.length + 1, chh, ap, np, cp, by go_num, by omega, HFIN.out.2.2, HRD1.out, by have := HNL.out; have := HNH.out; omega, by omega, rfl, rfl, HFIN.out.1, HFIN.out.2.1⟩
              case measure => simp [intOf]; omega
    · have HFIN : Hid (¬ (stAt text.data.toList mask.data.toList true r).at_ < text.data.toList.length) := by
        show ¬ _
        rw [hat, ← Lib.size_eq]; exact hlt
      have HP : Hid (Places text mask true w.heap.size r (.slice ah nh ch) (.slice ap np cp) wo) := hP
      clear hat hrd hb hnh hP bnd
      go_wp2
      go_ret2
      exact ⟨_, _, r, rfl, HRD.out, HFIN.out, HP.out, HB.out⟩

end Go.Proofs.Qxb6601350a
