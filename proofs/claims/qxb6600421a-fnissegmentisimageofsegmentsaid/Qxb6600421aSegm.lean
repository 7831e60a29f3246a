/-
  SEAT b6600421a: THE WALK OF Segment.
-/
import Derived.Test.Qxb6600421aSmall
import Derived.Deep.RegionLaw
import Derived.Deep.AppendLies
import Derived.Laws.IdiomStrings
namespace Go.Proofs.Qxb6600421a
open Go.RowKit

theorem Try.info5 : (Try.prog.info? 5).map (fun i => (i.zero, i.size, i.bytes)) = some (some (.int .u8 0), 1, 1) := by kernel_rfl

theorem kept_at (n : Int) (w : World) :
    Calls Try.prog 27 #[.int .u8 n] w fun e w' => e = .returned (.bool (keptI n)) ∧ w = w' := (kept_any n w).mono fun _ _ h => ⟨h.1, h.2.symm⟩

theorem upper_at (n : Nat) (m : Nat) (hm : m < 16) (e : n = m) (h : n < (⟨#[48, 49, 50, 51, 52, 53, 54, 55, 56, 57, 65, 66, 67, 68, 69, 70]⟩ : ByteArray).size) : (⟨#[48, 49, 50, 51, 52, 53, 54, 55, 56, 57, 65, 66, 67, 68, 69, 70]⟩ : ByteArray)[n]'h = hexD m := by
  subst e
  have key : ∀ k : Fin 16, (⟨#[48, 49, 50, 51, 52, 53, 54, 55, 56, 57, 65, 66, 67, 68, 69, 70]⟩ : ByteArray)[k.val]'k.isLt = hexD k.val := by decide +kernel
  exact key ⟨n, hm⟩

theorem and_15 (n : Nat) (h : n < 256) : bits BinOp.and IntKind.u8 (n : Int) 15 = ((n % 16 : Nat) : Int) := by
  have key : ∀ k : Fin 256, bits BinOp.and IntKind.u8 (k.val : Int) 15 = ((k.val % 16 : Nat) : Int) := by decide +kernel
  exact key ⟨n, h⟩

def byteV (c : UInt8) : Value := .int .u8 (c.toNat : Int)

theorem byteV_three (acc : List UInt8) (a b c : UInt8) : acc.map byteV ++ [Value.int .u8 (a.toNat : Int), .int .u8 (b.toNat : Int), .int .u8 (c.toNat : Int)] = (acc ++ [a, b, c]).map byteV := by simp [byteV]
theorem byteV_one (acc : List UInt8) (a : UInt8) : acc.map byteV ++ [byteV a] = (acc ++ [a]).map byteV := by simp

/-- What is owned, byte by byte, can be made a string. -/
theorem cells_bytes {w : World} {base g cap : Nat} {acc : List UInt8} (h : w.ownsRow base 5 1 (.slice (some ⟨g, 0, none⟩) acc.length cap) acc.length (acc.map byteV)) :
    ∀ j (hj : j < acc.length), w.cell? ((⟨g, 0, none⟩ : Addr).add j) = some (.int .u8 (acc[j].toNat : Int)) := by
  intro j hj
  have := h.cellAt j (by omega)
  have hadd : (⟨g, 0, none⟩ : Addr).add j = ⟨g, j, none⟩ := by unfold Addr.add; split <;> simp_all
  rw [hadd, this]
  simp [List.getElem?_eq_getElem hj, byteV]

theorem ret_string {a b : ByteArray} (h : a = b) : Ending.returned (.string a) = .returned (.string b) := by rw [h]

theorem slice_len {g cap a b : Nat} (h : a = b) : Value.slice (some ⟨g, 0, none⟩) a cap = .slice (some ⟨g, 0, none⟩) b cap := by rw [h]

theorem own_len {w : World} {base g cap a b : Nat} {xs ys : List Value} (h : w.ownsRow base 5 1 (.slice (some ⟨g, 0, none⟩) a cap) a xs) (e : a = b) (e2 : xs = ys) : w.ownsRow base 5 1 (.slice (some ⟨g, 0, none⟩) b cap) b ys := by
  subst e; subst e2; exact h

theorem seg_step {s : ByteArray} {k : Nat} {acc : List UInt8} (h : k < s.size) (hr : acc ++ segL (s.data.toList.drop k) = segL s.data.toList) : (acc ++ segC s[k]) ++ segL (s.data.toList.drop (k + 1)) = segL s.data.toList := by
  rw [← hr, drop_cons s k h, segL_cons, List.append_assoc]

theorem esc_step_kept {s : ByteArray} {k c : Nat} (h : k < s.size) (hk : keptI (s[k].toNat : Int) = true) (hr : c + escs (s.data.toList.drop k) = escs s.data.toList) : c + escs (s.data.toList.drop (k + 1)) = escs s.data.toList := by
  have hk' : keptB s[k] = true := hk
  rw [← hr, drop_cons s k h, escs_cons, hk']; simp
theorem esc_step_esc {s : ByteArray} {k c : Nat} (h : k < s.size) (hk : keptI (s[k].toNat : Int) = false) (hr : c + escs (s.data.toList.drop k) = escs s.data.toList) : (c + 1) + escs (s.data.toList.drop (k + 1)) = escs s.data.toList := by
  have hk' : keptB s[k] = false := hk
  rw [← hr, drop_cons s k h, escs_cons, hk']; simp; omega

set_option maxHeartbeats 1000000 in
theorem segment_any (s : ByteArray) (w : World) (hs : s.size ≤ 1048576) :
    Calls Try.prog 13 #[.string s] w fun e w' => e = .returned (.string ⟨(segL s.data.toList).toArray⟩) ∧ Below w.heap.size w w' := by
  obtain ⟨i0, hi, hz0, hz1, hz2⟩ := info_parts Try.info5
  go_enter Try.func13, Try.ntmps13
  go_wp2
  go_loop [3, 4] (fun n i => ∃ k c : Nat, k ≤ s.size ∧ i = .int .i64 k ∧ n = .int .i64 c ∧ c ≤ k ∧ c + escs (s.data.toList.drop k) = escs s.data.toList) (fun _ i => s.size - (intOf i).toNat)
  case atStart => exact ⟨0, 0, Nat.zero_le _, rfl, rfl, Nat.le_refl _, by simp⟩
  case round =>
    obtain ⟨k, c, hk, rfl, rfl, hck, hr⟩ := hrel
    have HR : Hid (c + escs (s.data.toList.drop k) = escs s.data.toList) := hr
    clear hr
    by_cases hlt : k < s.size
    · cases hkp : keptI (s[k].toNat : Int) with
      | false =>
        go_wp2_with (go_at_call 27; refine (kept_at _ _).mono ?_; rintro e w' ⟨rfl, rfl⟩)
        go_round
        case rel => exact ⟨k + 1, c + 1, by omega, by go_num, by go_num, by omega, esc_step_esc hlt hkp HR.out⟩
        case measure => simp [intOf]; omega
      | true =>
        go_wp2_with (go_at_call 27; refine (kept_at _ _).mono ?_; rintro e w' ⟨rfl, rfl⟩)
        go_round
        case rel => exact ⟨k + 1, c, by omega, by go_num, rfl, by omega, esc_step_kept hlt hkp HR.out⟩
        case measure => simp [intOf]; omega
    · have he : c = escs s.data.toList := by
        have := HR.out
        rw [drop_end s k hlt, escs_nil] at this
        omega
      have HE : Hid (c = escs s.data.toList) := he
      clear he HR
      by_cases hc : c = 0
      · have hc2 : ((c : Int) == 0) = true := by simpa using hc
        go_wp2
        go_ret
        exact ⟨ret_string (by rw [seg_of_noesc s.data.toList (by rw [← HE.out]; exact hc)]), Below.refl _ _⟩
      · have hc2 : ((c : Int) == 0) = false := by simpa using hc
        go_wp2_with (at_make; refine wpList_make_own _ rfl _ _ 26 rfl w.heap.size 5 i0 (.int .u8 0) 1 Try.underlying26 hi hz0 hz1 _ _ _ (s.size + 2 * c) rfl rfl (by omega) ?b2 ?b3 (Nat.le_refl _) ?_)
        case b2 => first | omega | (rw [hz2]; omega)
        case b3 => unfold maxLen; omega
        intro w0 hown0 hgrow0
        go_wp2
        go_loopw [5, 6] (fun v i wr => ∃ (k g cap : Nat) (acc : List UInt8), k ≤ s.size ∧ i = .int .i64 k ∧ v = .slice (some ⟨g, 0, none⟩) acc.length cap ∧ acc.length ≤ 3 * k ∧ w.heap.size ≤ g ∧ wr.ownsRow w.heap.size 5 1 (.slice (some ⟨g, 0, none⟩) acc.length cap) acc.length (acc.map byteV) ∧ acc ++ segL (s.data.toList.drop k) = segL s.data.toList ∧ Below w.heap.size w wr)
          (fun _ i _ => s.size - (intOf i).toNat)
        case atStart => exact ⟨0, w.heap.size, s.size + 2 * c, [], Nat.zero_le _, rfl, rfl, Nat.le_refl _, Nat.le_refl _, hown0, by simp, (Below.refl _ _).grown hgrow0 (Nat.le_refl _) (fun k h => by cases h)⟩
        case round =>
          obtain ⟨k2, g, cap, acc, hk2, rfl, rfl, hal, hg, hown, hr2, hb⟩ := hrel
          have HR2 : Hid (acc ++ segL (s.data.toList.drop k2) = segL s.data.toList) := hr2
          clear hr2 hown0 hgrow0
          have hsz := hb.size
          by_cases hlt2 : k2 < s.size
          · cases hkp : keptI (s[k2].toNat : Int) with
            | true =>
              go_wp2_with (first | (go_at_call 27; refine (kept_at _ _).mono ?_; rintro e w' ⟨rfl, rfl⟩) | (at_builtin; refine wpList_append_lies _ rfl _ _ 26 rfl w.heap.size 5 i0 (.int .u8 0) 1 1 Try.underlying26 hi hz0 hz1 hz2 rfl (by decide) _ _ _ rfl (hown.alloc _) ⟨wr.heap.size, 0, none⟩ 1 1 [byteV s[k2]] rfl rfl ?c1 ?c2 (by omega) ?c3 ?c4 ?c5 _ rfl ?_))
              case c1 =>
                intro j u hj
                match j, hj with
                | 0, hj => simp at hj; subst hj; simp [Addr.add, byteV]
              case c2 => intro u hu; simp at hu; subst hu; rfl
              case c3 => unfold maxLen; omega
              case c4 => omega
              case c5 => simp; omega
              intro g' cap' w1 hown' hgrow hat hlt'
              have hC : segC s[k2] = [s[k2]] := segC_kept hkp
              have hR : (acc ++ [s[k2]]) ++ segL (s.data.toList.drop (k2 + 1)) = segL s.data.toList := by rw [← hC]; exact seg_step hlt2 HR2.out
              have hO := own_len hown' (show acc.length + 1 = (acc ++ [s[k2]]).length by simp) (byteV_one acc s[k2])
              have hB : Below w.heap.size w w1 := (hb.alloc hsz _).grown hgrow (by simp; omega) (fun k h => by simp [Value.ownBlock] at h; omega)
              have hg' : w.heap.size ≤ g' := by rcases hat with h | h <;> first | (simp [Value.ownBlock] at h; omega) | omega
              have HX : Hid (((acc ++ [s[k2]]) ++ segL (s.data.toList.drop (k2 + 1)) = segL s.data.toList) ∧ w1.ownsRow w.heap.size 5 1 (.slice (some ⟨g', 0, none⟩) (acc ++ [s[k2]]).length cap') (acc ++ [s[k2]]).length ((acc ++ [s[k2]]).map byteV) ∧ Below w.heap.size w w1) := ⟨hR, hO, hB⟩
              clear hown hown' hgrow hat hlt' hC hR hO hB HR2 hb
              go_wp2
              go_roundw
              case rel => exact ⟨k2 + 1, g', cap', acc ++ [s[k2]], by omega, by go_num, slice_len (by simp), by simp; omega, hg', HX.out.2.1, HX.out.1, HX.out.2.2⟩
              case measure => simp [intOf]; omega
            | false =>
              have hby := s[k2].toNat_lt
              have hq1 : (0 : Int) ≤ (s[k2].toNat : Int) / 16 := by omega
              have hq2 : (s[k2].toNat : Int) / 16 < 16 := by omega
              have hG1 := upper_at ((s[k2].toNat : Int) / 16).toNat (s[k2].toNat / 16) (by omega) (by omega)
              have hA := and_15 s[k2].toNat hby
              have hq3 : (0 : Int) ≤ bits BinOp.and IntKind.u8 (s[k2].toNat : Int) 15 := by omega
              have hq4 : bits BinOp.and IntKind.u8 (s[k2].toNat : Int) 15 < 16 := by omega
              have hG2 := upper_at (bits BinOp.and IntKind.u8 (s[k2].toNat : Int) 15).toNat (s[k2].toNat % 16) (by omega) (by omega)
              clear hA
              go_wp2_with (first | (go_at_call 27; refine (kept_at _ _).mono ?_; rintro e w' ⟨rfl, rfl⟩) | (at_builtin; fail))
              have hm1 : acc.length + 3 ≤ maxLen := by unfold maxLen; omega
              have hm2 : (acc.length + 3) * 1 ≤ 140737488355328 := by omega
              have hone : ∀ u ∈ [Value.int .u8 37, .int .u8 ((hexD (s[k2].toNat / 16)).toNat : Int), .int .u8 ((hexD (s[k2].toNat % 16)).toNat : Int)], u.oneCell' = true := by
                intro u hu
                simp only [List.mem_cons, List.not_mem_nil, or_false] at hu
                rcases hu with rfl | rfl | rfl <;> rfl
              have HM1 : Hid (acc.length + 3 ≤ maxLen) := hm1
              have HM2 : Hid ((acc.length + 3) * 1 ≤ 140737488355328) := hm2
              have HM3 : Hid (∀ u ∈ [Value.int .u8 37, .int .u8 ((hexD (s[k2].toNat / 16)).toNat : Int), .int .u8 ((hexD (s[k2].toNat % 16)).toNat : Int)], u.oneCell' = true) := hone
              clear hm1 hm2 hone
              go_region_law ((refine step_append_lies _ (by rfl) (.tmp 45) (.tmp 52) 26 (by rfl) w.heap.size 5 i0 (.int .u8 0) 1 1 Try.underlying26 hi hz0 hz1 hz2 rfl (by decide) _ acc.length (acc.map byteV) (by rfl) (hown.alloc _).drew ⟨wr.heap.size, 0, none⟩ 3 3 [.int .u8 37, .int .u8 ((hexD (s[k2].toNat / 16)).toNat : Int), .int .u8 ((hexD (s[k2].toNat % 16)).toNat : Int)] (by rfl) (by rfl) (World.news_of_block (heap_alloc_new wr _)) HM3.out (by decide) HM1.out HM2.out (by simp; omega) (wr.heap.size + 1) (by simp) ?_; intro g' cap' w1 hown' hgrow hat hlt'))
              all_goals
                have hC : segC s[k2] = [37, hexD (s[k2].toNat / 16), hexD (s[k2].toNat % 16)] := segC_esc hkp
                have hR : (acc ++ [37, hexD (s[k2].toNat / 16), hexD (s[k2].toNat % 16)]) ++ segL (s.data.toList.drop (k2 + 1)) = segL s.data.toList := by rw [← hC]; exact seg_step hlt2 HR2.out
                have hO := own_len hown' (show acc.length + 3 = (acc ++ [37, hexD (s[k2].toNat / 16), hexD (s[k2].toNat % 16)]).length by simp) (byteV_three acc 37 _ _)
                have hB : Below w.heap.size w w1 := ((hb.alloc hsz _).drew).grown hgrow (by simp; omega) (fun k h => by simp [Value.ownBlock] at h; omega)
                have hg' : w.heap.size ≤ g' := by rcases hat with h | h <;> first | (simp [Value.ownBlock] at h; omega) | omega
                have HX : Hid (((acc ++ [37, hexD (s[k2].toNat / 16), hexD (s[k2].toNat % 16)]) ++ segL (s.data.toList.drop (k2 + 1)) = segL s.data.toList) ∧ w1.ownsRow w.heap.size 5 1 (.slice (some ⟨g', 0, none⟩) (acc ++ [37, hexD (s[k2].toNat / 16), hexD (s[k2].toNat % 16)]).length cap') (acc ++ [37, hexD (s[k2].toNat / 16), hexD (s[k2].toNat % 16)]).length ((acc ++ [37, hexD (s[k2].toNat / 16), hexD (s[k2].toNat % 16)]).map byteV) ∧ Below w.heap.size w w1) := ⟨hR, hO, hB⟩
                clear hown hown' hgrow hat hlt' hC hR hO hB HR2 hb HM1 HM2 HM3 hG1 hG2 hq1 hq2 hq3 hq4
                go_wp2
                go_roundw
                case rel => exact ⟨k2 + 1, g', cap', acc ++ [37, hexD (s[k2].toNat / 16), hexD (s[k2].toNat % 16)], by omega, by go_num, slice_len (by simp), by simp; omega, hg', HX.out.2.1, HX.out.1, HX.out.2.2⟩
                case measure => simp [intOf]; omega
          · have hcv := run_convert_bytes_back (P := Try.prog) wr 26 9 5 ⟨g, 0, none⟩ cap acc Try.underlying26 Try.underlying5 Try.underlying9 (cells_bytes hown)
            have hE : acc = segL s.data.toList := by
              have := HR2.out
              rw [drop_end s k2 hlt2] at this
              simpa [segL] using this
            have HEE : Hid (acc = segL s.data.toList) := hE
            clear hE HR2 hown
            go_wp2
            go_ret
            exact ⟨ret_string (by rw [HEE.out]), hb⟩
end Go.Proofs.Qxb6600421a
