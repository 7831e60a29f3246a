/-
  SEAT b6600874a: THE WALK OF splitModel (the remainder behind the sign stands three times, by program).
-/
import Derived.Test.Qxb6600874aDig
namespace Go.Proofs.Qxb6600874a
open Go.RowKit

/-! ### The scanner's ends, by places -/
theorem no_digits {t : List UInt8} (h : ∀ x r, t = x :: r → digB x = false) : scanT t = ([], [], false) := by
  have := (scan_places t 0 rfl (Nat.zero_le _) (by simpa using h)).1
  unfold scanT
  rw [this]; rfl

theorem take_ne {t : List UInt8} {n : Nat} (h0 : 0 < n) (hn : n ≤ t.length) : (t.take n).isEmpty = false := by
  cases t with
  | nil => simp at hn; omega
  | cons c t => cases n with
    | zero => omega
    | succ n => rfl

theorem whole_only {t : List UInt8} {n : Nat} (h0 : 0 < n) (hn : n = t.length) (ha : allD (t.take n) = true) : scanT t = (t.take n, [], true) := by
  have hd : t.drop n = [] := List.drop_eq_nil_of_le (by omega)
  have := scan_places t n ha (by omega) (by intro x r e; rw [hd] at e; cases e)
  unfold scanT
  rw [this.1, this.2, take_ne h0 (by omega), hd]; rfl

theorem scan_at {t f : List UInt8} {n : Nat} {x : UInt8} (h0 : 0 < n) (hn : n ≤ t.length) (ha : allD (t.take n) = true) (hx : t.drop n = x :: f) (hd : digB x = false) :
    scanT t = if x == 46 && digs f then (t.take n, f, true) else ([], [], false) := by
  have := scan_places t n ha hn (by intro y r e; rw [hx] at e; rw [← (List.cons.inj e).1]; exact hd)
  unfold scanT
  rw [this.1, this.2, take_ne h0 hn, hx]; rfl

theorem u8_eq_of {c : UInt8} {n : Nat} (h : (c.toNat : Int) = n) (hn : n < 256) : c = n.toUInt8 := by
  apply UInt8.toNat_inj.1
  simp only [Nat.toUInt8, UInt8.toNat_ofNat']
  omega

theorem drop_drop_at (s : ByteArray) (a k : Nat) (h : a ≤ k) : (s.data.toList.drop a).drop (k - a) = s.data.toList.drop k := by
  rw [List.drop_drop]; congr 1; omega

theorem seg_grow (s : ByteArray) (a k : Nat) (h : a ≤ k) (hk : k < s.size) (ha : allD ((s.data.toList.drop a).take (k - a)) = true) (hd : digI (s[k].toNat : Int) = true) : allD ((s.data.toList.drop a).take (k + 1 - a)) = true := by
  have hl : s.data.toList.length = s.size := (Lib.size_eq s).symm
  have e : k + 1 - a = (k - a) + 1 := by omega
  have hlt : k - a < (s.data.toList.drop a).length := by rw [List.length_drop]; omega
  rw [e, List.take_succ_eq_append_getElem hlt, allD_snoc, ha]
  have e2 : (s.data.toList.drop a)[k - a] = s[k] := by
    rw [List.getElem_drop]
    have : a + (k - a) = k := by omega
    simp only [this]; rfl
  rw [e2]
  exact hd

theorem same3 {x : List UInt8 × List UInt8 × Bool} {A B A' B' : List UInt8} {c c' : Bool} (h : x = (A, B, c)) (h' : x = (A', B', c')) : A = A' ∧ B = B' ∧ c = c' := by
  rw [h] at h'
  simp only [Prod.mk.injEq] at h'
  exact h'

/-- What the scanner says at each of splitModel's ends; a: where the digits begin. -/
theorem end_none {s : ByteArray} {a : Nat} (h : ¬ a < s.size ∨ ∃ h : a < s.size, digI (s[a].toNat : Int) = false) : scanT (s.data.toList.drop a) = ([], [], false) := by
  apply no_digits
  intro x r e
  rcases h with h | ⟨h, hd⟩
  · rw [drop_end s a h] at e; cases e
  · rw [drop_cons s a h] at e; rw [← (List.cons.inj e).1]; exact hd
theorem end_whole {s : ByteArray} {a : Nat} (h : a < s.size) (ha : allD ((s.data.toList.drop a).take (s.size - a)) = true) : scanT (s.data.toList.drop a) = ((s.data.toList.drop a).take (s.size - a), [], true) :=
  whole_only (by omega) (by rw [List.length_drop, ← Lib.size_eq]) ha
theorem end_at {s : ByteArray} {a k : Nat} (h : a < k) (hk : k < s.size) (ha : allD ((s.data.toList.drop a).take (k - a)) = true) (hd : digI (s[k].toNat : Int) = false) :
    scanT (s.data.toList.drop a) = if s[k] == 46 && digs (s.data.toList.drop (k + 1)) then ((s.data.toList.drop a).take (k - a), s.data.toList.drop (k + 1), true) else ([], [], false) :=
  scan_at (by omega) (by rw [List.length_drop, ← Lib.size_eq]; omega) ha (by rw [drop_drop_at s a k (by omega), drop_cons s k hk]) hd
theorem end_bad {s : ByteArray} {a k : Nat} (h : a < k) (hk : k < s.size) (ha : allD ((s.data.toList.drop a).take (k - a)) = true) (hd : digI (s[k].toNat : Int) = false) (h46 : ¬ (s[k].toNat : Int) = 46) : scanT (s.data.toList.drop a) = ([], [], false) := by
  have : (s[k] == 46) = false := by simp only [beq_eq_false_iff_ne]; intro e; exact h46 (by rw [e]; rfl)
  rw [end_at h hk ha hd, this]; rfl
theorem end_point {s : ByteArray} {a k : Nat} (h : a < k) (hk : k < s.size) (ha : allD ((s.data.toList.drop a).take (k - a)) = true) (hd : digI (s[k].toNat : Int) = false) (h46 : (s[k].toNat : Int) = 46) (b : Bool) (hb : digs (s.data.toList.drop (k + 1)) = b) :
    scanT (s.data.toList.drop a) = if b then ((s.data.toList.drop a).take (k - a), s.data.toList.drop (k + 1), true) else ([], [], false) := by
  have : (s[k] == 46) = true := by rw [beq_iff_eq]; exact u8_eq_of (n := 46) h46 (by decide)
  rw [end_at h hk ha hd, this, hb]; rfl
theorem frac_bad {s : ByteArray} {f m : Nat} (hf : f ≤ m) (hm : m < s.size) (hd : digI (s[m].toNat : Int) = false) : digs (s.data.toList.drop f) = false := by
  have e : s.data.toList.drop f = (s.data.toList.drop f).take (m - f) ++ s.data.toList.drop m := by
    rw [← drop_drop_at s f m hf, List.take_append_drop]
  have : digB s[m] = false := hd
  unfold digs allD
  rw [e, List.all_append, drop_cons s m hm, List.all_cons, this]; simp
theorem frac_none {s : ByteArray} {f : Nat} (hf : ¬ f < s.size) : digs (s.data.toList.drop f) = false := by rw [drop_end s f hf]; rfl
theorem frac_good {s : ByteArray} {f : Nat} (hf : f < s.size) (ha : allD ((s.data.toList.drop f).take (s.size - f)) = true) : digs (s.data.toList.drop f) = true := by
  have e : (s.data.toList.drop f).take (s.size - f) = s.data.toList.drop f := List.take_of_length_le (by rw [List.length_drop, Lib.size_eq]; exact Nat.le_refl _)
  rw [e] at ha
  rw [digs_ne (by rw [drop_cons s f hf]; simp)]
  exact ha

set_option maxHeartbeats 2000000 in
theorem model_empty (s : ByteArray) (w : World) (hs : s.size ≤ 16777216) (h0 : ¬ 0 < s.size) (A B : List UInt8) (c : Bool) (HQ : Hid (scanT (s.data.toList.drop 0) = (A, B, c))) :
    Calls Try.prog 11 #[.string s] w fun e w' => e = .returned (.tuple #[.string ⟨A.toArray⟩, .string ⟨B.toArray⟩, .bool c]) ∧ Below w.heap.size w w' := by
  have hg : decide ((0 : Int) < (s.size : Int)) = false := decide_eq_false (by omega)
  go_enter Try.func11, Try.ntmps11
  go_wp2
  go_loop [5] (fun i => ∃ k : Nat, 0 ≤ k ∧ k ≤ s.size ∧ i = .int .i64 k ∧ allD ((s.data.toList.drop 0).take (k - 0)) = true) (fun i => s.size - (intOf i).toNat)
  case atStart => exact ⟨0, Nat.le_refl _, by omega, rfl, by simp [allD]⟩
  case round =>
    obtain ⟨k, hk0, hk, rfl, ha⟩ := hrel
    have HA : Hid (allD ((s.data.toList.drop 0).take (k - 0)) = true) := ha
    clear ha
    by_cases hlt : k < s.size
    · cases hd : digI (s[k].toNat : Int) with
      | true =>
        have HG : Hid (allD ((s.data.toList.drop 0).take (k + 1 - 0)) = true) := seg_grow s 0 k hk0 hlt HA.out hd
        go_wp2_with (go_at_call 17; refine (isDigitByte_any _ _).mono ?_; rintro e w' ⟨rfl, rfl⟩)
        go_round
        case rel => exact ⟨k + 1, by omega, by omega, by go_num, HG.out⟩
        case measure => simp [intOf]; omega
      | false =>
        by_cases hks : k = 0
        · have hb1 : ((k : Int) == 0) = true := by rw [beq_iff_eq]; omega
          have HE : Hid (scanT (s.data.toList.drop 0) = ([], [], false)) := by
            subst hks
            exact end_none (.inr ⟨hlt, hd⟩)
          clear hks
          go_wp2_with (go_at_call 17; refine (isDigitByte_any _ _).mono ?_; rintro e w' ⟨rfl, rfl⟩)
          go_ret3
          exact ⟨ret3 (by rw [(same3 HQ.out HE.out).1]) (by rw [(same3 HQ.out HE.out).2.1]) (by rw [(same3 HQ.out HE.out).2.2]), Below.refl _ _⟩
        · have hb1 : ((k : Int) == 0) = false := by rw [beq_eq_false_iff_ne]; omega
          have hb2 : ((k : Int) == (s.size : Int)) = false := by rw [beq_eq_false_iff_ne]; omega
          by_cases h46 : (s[k].toNat : Int) = 46
          · have hb3 : ((s[k].toNat : Int) != 46) = false := by simpa using h46
            have HP : Hid (∀ b, digs (s.data.toList.drop (k + 1)) = b → scanT (s.data.toList.drop 0) = if b then ((s.data.toList.drop 0).take (k - 0), s.data.toList.drop (k + 1), true) else ([], [], false)) := fun b hb => end_point (by omega) hlt HA.out hd h46 b hb
            clear h46 hks
            go_wp2_with (go_at_call 17; refine (isDigitByte_any _ _).mono ?_; rintro e w' ⟨rfl, rfl⟩)
            clear hd hb1 hb2 hb3
            go_loop [5] (fun i => ∃ m : Nat, k + 1 ≤ m ∧ m ≤ s.size ∧ i = .int .i64 m ∧ allD ((s.data.toList.drop (k + 1)).take (m - (k + 1))) = true) (fun i => s.size - (intOf i).toNat)
            case atStart => exact ⟨k + 1, Nat.le_refl _, by omega, by go_num, by simp [allD]⟩
            case round =>
              obtain ⟨m, hm0, hm, rfl, ha2⟩ := hrel
              have HA2 : Hid (allD ((s.data.toList.drop (k + 1)).take (m - (k + 1))) = true) := ha2
              clear ha2
              by_cases hlt2 : m < s.size
              · cases hd2 : digI (s[m].toNat : Int) with
                | true =>
                  have HG : Hid (allD ((s.data.toList.drop (k + 1)).take (m + 1 - (k + 1))) = true) := seg_grow s (k + 1) m hm0 hlt2 HA2.out hd2
                  go_wp2_with (go_at_call 17; refine (isDigitByte_any _ _).mono ?_; rintro e w' ⟨rfl, rfl⟩)
                  go_round
                  case rel => exact ⟨m + 1, by omega, by omega, by go_num, HG.out⟩
                  case measure => simp [intOf]; omega
                | false =>
                  have HE : Hid (scanT (s.data.toList.drop 0) = ([], [], false)) := HP.out false (frac_bad hm0 hlt2 hd2)
                  have hb4 : ((m : Int) != (s.size : Int)) = true := by rw [bne_iff_ne]; omega
                  by_cases hmk : m = k + 1
                  · have hb5 : ((m : Int) == (k : Int) + 1) = true := by rw [beq_iff_eq]; omega
                    clear hmk
                    go_wp2_with (go_at_call 17; refine (isDigitByte_any _ _).mono ?_; rintro e w' ⟨rfl, rfl⟩)
                    go_ret3
                    exact ⟨ret3 (by rw [(same3 HQ.out HE.out).1]) (by rw [(same3 HQ.out HE.out).2.1]) (by rw [(same3 HQ.out HE.out).2.2]), Below.refl _ _⟩
                  · have hb5 : ((m : Int) == (k : Int) + 1) = false := by rw [beq_eq_false_iff_ne]; omega
                    clear hmk
                    go_wp2_with (go_at_call 17; refine (isDigitByte_any _ _).mono ?_; rintro e w' ⟨rfl, rfl⟩)
                    go_ret3
                    exact ⟨ret3 (by rw [(same3 HQ.out HE.out).1]) (by rw [(same3 HQ.out HE.out).2.1]) (by rw [(same3 HQ.out HE.out).2.2]), Below.refl _ _⟩
              · have hme : m = s.size := by omega
                have HME : Hid (m = s.size) := hme
                clear hme
                have hb4 : ((m : Int) != (s.size : Int)) = false := by rw [bne_eq_false_iff_eq]; have := HME.out; omega
                by_cases hmk : m = k + 1
                · have hb5 : ((m : Int) == (k : Int) + 1) = true := by rw [beq_iff_eq]; omega
                  have HE : Hid (scanT (s.data.toList.drop 0) = ([], [], false)) := HP.out false (frac_none (by omega))
                  clear hmk
                  go_wp2
                  go_ret3
                  exact ⟨ret3 (by rw [(same3 HQ.out HE.out).1]) (by rw [(same3 HQ.out HE.out).2.1]) (by rw [(same3 HQ.out HE.out).2.2]), Below.refl _ _⟩
                · have hb5 : ((m : Int) == (k : Int) + 1) = false := by rw [beq_eq_false_iff_ne]; omega
                  have HE : Hid (scanT (s.data.toList.drop 0) = ((s.data.toList.drop 0).take (k - 0), s.data.toList.drop (k + 1), true)) := HP.out true (frac_good (by have := HME.out; omega) (by have := HA2.out; rw [HME.out] at this; exact this))
                  have i1 : (0 : Int) ≤ (k : Int) + 1 := by omega
                  have i2 : (k : Int) + 1 ≤ (s.size : Int) := by omega
                  clear hmk
                  go_wp2
                  go_quiet (fail)
                  go_wp2
                  go_ret3
                  exact ⟨ret3 (by rw [(same3 HQ.out HE.out).1]; exact Lib.extract_eq s 0 k) (by rw [(same3 HQ.out HE.out).2.1]; exact extract_rest s (k + 1)) (by rw [(same3 HQ.out HE.out).2.2]), bel_drewN (Below.refl _ _) _⟩
          · have hb3 : ((s[k].toNat : Int) != 46) = true := by simpa using h46
            have HE : Hid (scanT (s.data.toList.drop 0) = ([], [], false)) := end_bad (by omega) hlt HA.out hd h46
            clear h46 hks
            go_wp2_with (go_at_call 17; refine (isDigitByte_any _ _).mono ?_; rintro e w' ⟨rfl, rfl⟩)
            go_ret3
            exact ⟨ret3 (by rw [(same3 HQ.out HE.out).1]) (by rw [(same3 HQ.out HE.out).2.1]) (by rw [(same3 HQ.out HE.out).2.2]), Below.refl _ _⟩
    · have hke : k = s.size := by omega
      have HKE : Hid (k = s.size) := hke
      clear hke
      have hb2 : ((k : Int) == (s.size : Int)) = true := by rw [beq_iff_eq]; have := HKE.out; omega
      by_cases hks : k = 0
      · have hb1 : ((k : Int) == 0) = true := by rw [beq_iff_eq]; omega
        have HE : Hid (scanT (s.data.toList.drop 0) = ([], [], false)) := end_none (.inl (by omega))
        clear hks
        go_wp2
        go_ret3
        exact ⟨ret3 (by rw [(same3 HQ.out HE.out).1]) (by rw [(same3 HQ.out HE.out).2.1]) (by rw [(same3 HQ.out HE.out).2.2]), Below.refl _ _⟩
      · have hb1 : ((k : Int) == 0) = false := by rw [beq_eq_false_iff_ne]; omega
        have HE : Hid (scanT (s.data.toList.drop 0) = ((s.data.toList.drop 0).take (k - 0), [], true)) := by
          have := HA.out
          rw [HKE.out] at this ⊢
          exact end_whole (by have := HKE.out; omega) this
        clear hks
        go_wp2
        go_ret3
        exact ⟨ret3 (by rw [(same3 HQ.out HE.out).1]; exact Lib.extract_eq s 0 k) (by rw [(same3 HQ.out HE.out).2.1]) (by rw [(same3 HQ.out HE.out).2.2]), Below.refl _ _⟩

set_option maxHeartbeats 2000000 in
theorem model_plain (s : ByteArray) (w : World) (hs : s.size ≤ 16777216) (h0 : 0 < s.size) (hc : ((s[0].toNat : Int) == 45) = false) (A B : List UInt8) (c : Bool) (HQ : Hid (scanT (s.data.toList.drop 0) = (A, B, c))) :
    Calls Try.prog 11 #[.string s] w fun e w' => e = .returned (.tuple #[.string ⟨A.toArray⟩, .string ⟨B.toArray⟩, .bool c]) ∧ Below w.heap.size w w' := by
  go_enter Try.func11, Try.ntmps11
  go_wp2
  go_loop [5] (fun i => ∃ k : Nat, 0 ≤ k ∧ k ≤ s.size ∧ i = .int .i64 k ∧ allD ((s.data.toList.drop 0).take (k - 0)) = true) (fun i => s.size - (intOf i).toNat)
  case atStart => exact ⟨0, Nat.le_refl _, by omega, rfl, by simp [allD]⟩
  case round =>
    obtain ⟨k, hk0, hk, rfl, ha⟩ := hrel
    have HA : Hid (allD ((s.data.toList.drop 0).take (k - 0)) = true) := ha
    clear ha
    by_cases hlt : k < s.size
    · cases hd : digI (s[k].toNat : Int) with
      | true =>
        have HG : Hid (allD ((s.data.toList.drop 0).take (k + 1 - 0)) = true) := seg_grow s 0 k hk0 hlt HA.out hd
        go_wp2_with (go_at_call 17; refine (isDigitByte_any _ _).mono ?_; rintro e w' ⟨rfl, rfl⟩)
        go_round
        case rel => exact ⟨k + 1, by omega, by omega, by go_num, HG.out⟩
        case measure => simp [intOf]; omega
      | false =>
        by_cases hks : k = 0
        · have hb1 : ((k : Int) == 0) = true := by rw [beq_iff_eq]; omega
          have HE : Hid (scanT (s.data.toList.drop 0) = ([], [], false)) := by
            subst hks
            exact end_none (.inr ⟨hlt, hd⟩)
          clear hks
          go_wp2_with (go_at_call 17; refine (isDigitByte_any _ _).mono ?_; rintro e w' ⟨rfl, rfl⟩)
          go_ret3
          exact ⟨ret3 (by rw [(same3 HQ.out HE.out).1]) (by rw [(same3 HQ.out HE.out).2.1]) (by rw [(same3 HQ.out HE.out).2.2]), Below.refl _ _⟩
        · have hb1 : ((k : Int) == 0) = false := by rw [beq_eq_false_iff_ne]; omega
          have hb2 : ((k : Int) == (s.size : Int)) = false := by rw [beq_eq_false_iff_ne]; omega
          by_cases h46 : (s[k].toNat : Int) = 46
          · have hb3 : ((s[k].toNat : Int) != 46) = false := by simpa using h46
            have HP : Hid (∀ b, digs (s.data.toList.drop (k + 1)) = b → scanT (s.data.toList.drop 0) = if b then ((s.data.toList.drop 0).take (k - 0), s.data.toList.drop (k + 1), true) else ([], [], false)) := fun b hb => end_point (by omega) hlt HA.out hd h46 b hb
            clear h46 hks
            go_wp2_with (go_at_call 17; refine (isDigitByte_any _ _).mono ?_; rintro e w' ⟨rfl, rfl⟩)
            clear hd hb1 hb2 hb3
            go_loop [5] (fun i => ∃ m : Nat, k + 1 ≤ m ∧ m ≤ s.size ∧ i = .int .i64 m ∧ allD ((s.data.toList.drop (k + 1)).take (m - (k + 1))) = true) (fun i => s.size - (intOf i).toNat)
            case atStart => exact ⟨k + 1, Nat.le_refl _, by omega, by go_num, by simp [allD]⟩
            case round =>
              obtain ⟨m, hm0, hm, rfl, ha2⟩ := hrel
              have HA2 : Hid (allD ((s.data.toList.drop (k + 1)).take (m - (k + 1))) = true) := ha2
              clear ha2
              by_cases hlt2 : m < s.size
              · cases hd2 : digI (s[m].toNat : Int) with
                | true =>
                  have HG : Hid (allD ((s.data.toList.drop (k + 1)).take (m + 1 - (k + 1))) = true) := seg_grow s (k + 1) m hm0 hlt2 HA2.out hd2
                  go_wp2_with (go_at_call 17; refine (isDigitByte_any _ _).mono ?_; rintro e w' ⟨rfl, rfl⟩)
                  go_round
                  case rel => exact ⟨m + 1, by omega, by omega, by go_num, HG.out⟩
                  case measure => simp [intOf]; omega
                | false =>
                  have HE : Hid (scanT (s.data.toList.drop 0) = ([], [], false)) := HP.out false (frac_bad hm0 hlt2 hd2)
                  have hb4 : ((m : Int) != (s.size : Int)) = true := by rw [bne_iff_ne]; omega
                  by_cases hmk : m = k + 1
                  · have hb5 : ((m : Int) == (k : Int) + 1) = true := by rw [beq_iff_eq]; omega
                    clear hmk
                    go_wp2_with (go_at_call 17; refine (isDigitByte_any _ _).mono ?_; rintro e w' ⟨rfl, rfl⟩)
                    go_ret3
                    exact ⟨ret3 (by rw [(same3 HQ.out HE.out).1]) (by rw [(same3 HQ.out HE.out).2.1]) (by rw [(same3 HQ.out HE.out).2.2]), Below.refl _ _⟩
                  · have hb5 : ((m : Int) == (k : Int) + 1) = false := by rw [beq_eq_false_iff_ne]; omega
                    clear hmk
                    go_wp2_with (go_at_call 17; refine (isDigitByte_any _ _).mono ?_; rintro e w' ⟨rfl, rfl⟩)
                    go_ret3
                    exact ⟨ret3 (by rw [(same3 HQ.out HE.out).1]) (by rw [(same3 HQ.out HE.out).2.1]) (by rw [(same3 HQ.out HE.out).2.2]), Below.refl _ _⟩
              · have hme : m = s.size := by omega
                have HME : Hid (m = s.size) := hme
                clear hme
                have hb4 : ((m : Int) != (s.size : Int)) = false := by rw [bne_eq_false_iff_eq]; have := HME.out; omega
                by_cases hmk : m = k + 1
                · have hb5 : ((m : Int) == (k : Int) + 1) = true := by rw [beq_iff_eq]; omega
                  have HE : Hid (scanT (s.data.toList.drop 0) = ([], [], false)) := HP.out false (frac_none (by omega))
                  clear hmk
                  go_wp2
                  go_ret3
                  exact ⟨ret3 (by rw [(same3 HQ.out HE.out).1]) (by rw [(same3 HQ.out HE.out).2.1]) (by rw [(same3 HQ.out HE.out).2.2]), Below.refl _ _⟩
                · have hb5 : ((m : Int) == (k : Int) + 1) = false := by rw [beq_eq_false_iff_ne]; omega
                  have HE : Hid (scanT (s.data.toList.drop 0) = ((s.data.toList.drop 0).take (k - 0), s.data.toList.drop (k + 1), true)) := HP.out true (frac_good (by have := HME.out; omega) (by have := HA2.out; rw [HME.out] at this; exact this))
                  have i1 : (0 : Int) ≤ (k : Int) + 1 := by omega
                  have i2 : (k : Int) + 1 ≤ (s.size : Int) := by omega
                  clear hmk
                  go_wp2
                  go_quiet (fail)
                  go_wp2
                  go_ret3
                  exact ⟨ret3 (by rw [(same3 HQ.out HE.out).1]; exact Lib.extract_eq s 0 k) (by rw [(same3 HQ.out HE.out).2.1]; exact extract_rest s (k + 1)) (by rw [(same3 HQ.out HE.out).2.2]), bel_drewN (Below.refl _ _) _⟩
          · have hb3 : ((s[k].toNat : Int) != 46) = true := by simpa using h46
            have HE : Hid (scanT (s.data.toList.drop 0) = ([], [], false)) := end_bad (by omega) hlt HA.out hd h46
            clear h46 hks
            go_wp2_with (go_at_call 17; refine (isDigitByte_any _ _).mono ?_; rintro e w' ⟨rfl, rfl⟩)
            go_ret3
            exact ⟨ret3 (by rw [(same3 HQ.out HE.out).1]) (by rw [(same3 HQ.out HE.out).2.1]) (by rw [(same3 HQ.out HE.out).2.2]), Below.refl _ _⟩
    · have hke : k = s.size := by omega
      have HKE : Hid (k = s.size) := hke
      clear hke
      have hb2 : ((k : Int) == (s.size : Int)) = true := by rw [beq_iff_eq]; have := HKE.out; omega
      by_cases hks : k = 0
      · have hb1 : ((k : Int) == 0) = true := by rw [beq_iff_eq]; omega
        have HE : Hid (scanT (s.data.toList.drop 0) = ([], [], false)) := end_none (.inl (by omega))
        clear hks
        go_wp2
        go_ret3
        exact ⟨ret3 (by rw [(same3 HQ.out HE.out).1]) (by rw [(same3 HQ.out HE.out).2.1]) (by rw [(same3 HQ.out HE.out).2.2]), Below.refl _ _⟩
      · have hb1 : ((k : Int) == 0) = false := by rw [beq_eq_false_iff_ne]; omega
        have HE : Hid (scanT (s.data.toList.drop 0) = ((s.data.toList.drop 0).take (k - 0), [], true)) := by
          have := HA.out
          rw [HKE.out] at this ⊢
          exact end_whole (by have := HKE.out; omega) this
        clear hks
        go_wp2
        go_ret3
        exact ⟨ret3 (by rw [(same3 HQ.out HE.out).1]; exact Lib.extract_eq s 0 k) (by rw [(same3 HQ.out HE.out).2.1]) (by rw [(same3 HQ.out HE.out).2.2]), Below.refl _ _⟩

set_option maxHeartbeats 2000000 in
theorem model_minus (s : ByteArray) (w : World) (hs : s.size ≤ 16777216) (h0 : 0 < s.size) (hc : ((s[0].toNat : Int) == 45) = true) (A B : List UInt8) (c : Bool) (HQ : Hid (scanT (s.data.toList.drop 1) = (A, B, c))) :
    Calls Try.prog 11 #[.string s] w fun e w' => e = .returned (.tuple #[.string ⟨A.toArray⟩, .string ⟨B.toArray⟩, .bool c]) ∧ Below w.heap.size w w' := by
  go_enter Try.func11, Try.ntmps11
  go_wp2
  go_loop [5] (fun i => ∃ k : Nat, 1 ≤ k ∧ k ≤ s.size ∧ i = .int .i64 k ∧ allD ((s.data.toList.drop 1).take (k - 1)) = true) (fun i => s.size - (intOf i).toNat)
  case atStart => exact ⟨1, Nat.le_refl _, by omega, rfl, by simp [allD]⟩
  case round =>
    obtain ⟨k, hk0, hk, rfl, ha⟩ := hrel
    have HA : Hid (allD ((s.data.toList.drop 1).take (k - 1)) = true) := ha
    clear ha
    by_cases hlt : k < s.size
    · cases hd : digI (s[k].toNat : Int) with
      | true =>
        have HG : Hid (allD ((s.data.toList.drop 1).take (k + 1 - 1)) = true) := seg_grow s 1 k hk0 hlt HA.out hd
        go_wp2_with (go_at_call 17; refine (isDigitByte_any _ _).mono ?_; rintro e w' ⟨rfl, rfl⟩)
        go_round
        case rel => exact ⟨k + 1, by omega, by omega, by go_num, HG.out⟩
        case measure => simp [intOf]; omega
      | false =>
        by_cases hks : k = 1
        · have hb1 : ((k : Int) == 1) = true := by rw [beq_iff_eq]; omega
          have HE : Hid (scanT (s.data.toList.drop 1) = ([], [], false)) := by
            subst hks
            exact end_none (.inr ⟨hlt, hd⟩)
          clear hks
          go_wp2_with (go_at_call 17; refine (isDigitByte_any _ _).mono ?_; rintro e w' ⟨rfl, rfl⟩)
          go_ret3
          exact ⟨ret3 (by rw [(same3 HQ.out HE.out).1]) (by rw [(same3 HQ.out HE.out).2.1]) (by rw [(same3 HQ.out HE.out).2.2]), Below.refl _ _⟩
        · have hb1 : ((k : Int) == 1) = false := by rw [beq_eq_false_iff_ne]; omega
          have hb2 : ((k : Int) == (s.size : Int)) = false := by rw [beq_eq_false_iff_ne]; omega
          by_cases h46 : (s[k].toNat : Int) = 46
          · have hb3 : ((s[k].toNat : Int) != 46) = false := by simpa using h46
            have HP : Hid (∀ b, digs (s.data.toList.drop (k + 1)) = b → scanT (s.data.toList.drop 1) = if b then ((s.data.toList.drop 1).take (k - 1), s.data.toList.drop (k + 1), true) else ([], [], false)) := fun b hb => end_point (by omega) hlt HA.out hd h46 b hb
            clear h46 hks
            go_wp2_with (go_at_call 17; refine (isDigitByte_any _ _).mono ?_; rintro e w' ⟨rfl, rfl⟩)
            clear hd hb1 hb2 hb3
            go_loop [5] (fun i => ∃ m : Nat, k + 1 ≤ m ∧ m ≤ s.size ∧ i = .int .i64 m ∧ allD ((s.data.toList.drop (k + 1)).take (m - (k + 1))) = true) (fun i => s.size - (intOf i).toNat)
            case atStart => exact ⟨k + 1, Nat.le_refl _, by omega, by go_num, by simp [allD]⟩
            case round =>
              obtain ⟨m, hm0, hm, rfl, ha2⟩ := hrel
              have HA2 : Hid (allD ((s.data.toList.drop (k + 1)).take (m - (k + 1))) = true) := ha2
              clear ha2
              by_cases hlt2 : m < s.size
              · cases hd2 : digI (s[m].toNat : Int) with
                | true =>
                  have HG : Hid (allD ((s.data.toList.drop (k + 1)).take (m + 1 - (k + 1))) = true) := seg_grow s (k + 1) m hm0 hlt2 HA2.out hd2
                  go_wp2_with (go_at_call 17; refine (isDigitByte_any _ _).mono ?_; rintro e w' ⟨rfl, rfl⟩)
                  go_round
                  case rel => exact ⟨m + 1, by omega, by omega, by go_num, HG.out⟩
                  case measure => simp [intOf]; omega
                | false =>
                  have HE : Hid (scanT (s.data.toList.drop 1) = ([], [], false)) := HP.out false (frac_bad hm0 hlt2 hd2)
                  have hb4 : ((m : Int) != (s.size : Int)) = true := by rw [bne_iff_ne]; omega
                  by_cases hmk : m = k + 1
                  · have hb5 : ((m : Int) == (k : Int) + 1) = true := by rw [beq_iff_eq]; omega
                    clear hmk
                    go_wp2_with (go_at_call 17; refine (isDigitByte_any _ _).mono ?_; rintro e w' ⟨rfl, rfl⟩)
                    go_ret3
                    exact ⟨ret3 (by rw [(same3 HQ.out HE.out).1]) (by rw [(same3 HQ.out HE.out).2.1]) (by rw [(same3 HQ.out HE.out).2.2]), Below.refl _ _⟩
                  · have hb5 : ((m : Int) == (k : Int) + 1) = false := by rw [beq_eq_false_iff_ne]; omega
                    clear hmk
                    go_wp2_with (go_at_call 17; refine (isDigitByte_any _ _).mono ?_; rintro e w' ⟨rfl, rfl⟩)
                    go_ret3
                    exact ⟨ret3 (by rw [(same3 HQ.out HE.out).1]) (by rw [(same3 HQ.out HE.out).2.1]) (by rw [(same3 HQ.out HE.out).2.2]), Below.refl _ _⟩
              · have hme : m = s.size := by omega
                have HME : Hid (m = s.size) := hme
                clear hme
                have hb4 : ((m : Int) != (s.size : Int)) = false := by rw [bne_eq_false_iff_eq]; have := HME.out; omega
                by_cases hmk : m = k + 1
                · have hb5 : ((m : Int) == (k : Int) + 1) = true := by rw [beq_iff_eq]; omega
                  have HE : Hid (scanT (s.data.toList.drop 1) = ([], [], false)) := HP.out false (frac_none (by omega))
                  clear hmk
                  go_wp2
                  go_ret3
                  exact ⟨ret3 (by rw [(same3 HQ.out HE.out).1]) (by rw [(same3 HQ.out HE.out).2.1]) (by rw [(same3 HQ.out HE.out).2.2]), Below.refl _ _⟩
                · have hb5 : ((m : Int) == (k : Int) + 1) = false := by rw [beq_eq_false_iff_ne]; omega
                  have HE : Hid (scanT (s.data.toList.drop 1) = ((s.data.toList.drop 1).take (k - 1), s.data.toList.drop (k + 1), true)) := HP.out true (frac_good (by have := HME.out; omega) (by have := HA2.out; rw [HME.out] at this; exact this))
                  have i1 : (0 : Int) ≤ (k : Int) + 1 := by omega
                  have i2 : (k : Int) + 1 ≤ (s.size : Int) := by omega
                  clear hmk
                  go_wp2
                  go_quiet (fail)
                  go_wp2
                  go_ret3
                  exact ⟨ret3 (by rw [(same3 HQ.out HE.out).1]; exact Lib.extract_eq s 1 k) (by rw [(same3 HQ.out HE.out).2.1]; exact extract_rest s (k + 1)) (by rw [(same3 HQ.out HE.out).2.2]), bel_drewN (Below.refl _ _) _⟩
          · have hb3 : ((s[k].toNat : Int) != 46) = true := by simpa using h46
            have HE : Hid (scanT (s.data.toList.drop 1) = ([], [], false)) := end_bad (by omega) hlt HA.out hd h46
            clear h46 hks
            go_wp2_with (go_at_call 17; refine (isDigitByte_any _ _).mono ?_; rintro e w' ⟨rfl, rfl⟩)
            go_ret3
            exact ⟨ret3 (by rw [(same3 HQ.out HE.out).1]) (by rw [(same3 HQ.out HE.out).2.1]) (by rw [(same3 HQ.out HE.out).2.2]), Below.refl _ _⟩
    · have hke : k = s.size := by omega
      have HKE : Hid (k = s.size) := hke
      clear hke
      have hb2 : ((k : Int) == (s.size : Int)) = true := by rw [beq_iff_eq]; have := HKE.out; omega
      by_cases hks : k = 1
      · have hb1 : ((k : Int) == 1) = true := by rw [beq_iff_eq]; omega
        have HE : Hid (scanT (s.data.toList.drop 1) = ([], [], false)) := end_none (.inl (by omega))
        clear hks
        go_wp2
        go_ret3
        exact ⟨ret3 (by rw [(same3 HQ.out HE.out).1]) (by rw [(same3 HQ.out HE.out).2.1]) (by rw [(same3 HQ.out HE.out).2.2]), Below.refl _ _⟩
      · have hb1 : ((k : Int) == 1) = false := by rw [beq_eq_false_iff_ne]; omega
        have HE : Hid (scanT (s.data.toList.drop 1) = ((s.data.toList.drop 1).take (k - 1), [], true)) := by
          have := HA.out
          rw [HKE.out] at this ⊢
          exact end_whole (by have := HKE.out; omega) this
        clear hks
        go_wp2
        go_ret3
        exact ⟨ret3 (by rw [(same3 HQ.out HE.out).1]; exact Lib.extract_eq s 1 k) (by rw [(same3 HQ.out HE.out).2.1]) (by rw [(same3 HQ.out HE.out).2.2]), Below.refl _ _⟩

theorem splitModel_any (s : ByteArray) (w : World) (hs : s.size ≤ 16777216) :
    Calls Try.prog 11 #[.string s] w fun e w' => e = .returned (.tuple #[.string ⟨(scanL s.data.toList).1.toArray⟩, .string ⟨(scanL s.data.toList).2.1.toArray⟩, .bool (scanL s.data.toList).2.2]) ∧ Below w.heap.size w w' := by
  by_cases h0 : 0 < s.size
  · have hd : s.data.toList = s[0] :: s.data.toList.drop 1 := by simpa using drop_cons s 0 h0
    cases hc : ((s[0].toNat : Int) == 45) with
    | true =>
      have e : s[0] = 45 := u8_eq_of (n := 45) (by simpa using hc) (by decide)
      have ht : scanL s.data.toList = scanT (s.data.toList.drop 1) := by
        unfold scanL; rw [hd, e, trim_minus]; rfl
      rw [ht]
      exact model_minus s w hs h0 hc _ _ _ rfl
    | false =>
      have ht : scanL s.data.toList = scanT (s.data.toList.drop 0) := by
        have hne : ¬ s[0] = 45 := by intro e; rw [e] at hc; simp at hc
        unfold scanL; rw [List.drop_zero]
        congr 1
        rw [hd, trimL]; simp [hne]
      rw [ht]
      exact model_plain s w hs h0 hc _ _ _ rfl
  · have ht : scanL s.data.toList = scanT (s.data.toList.drop 0) := by
      have hd := drop_end s 0 h0
      rw [List.drop_zero] at hd
      unfold scanL; rw [hd]; rfl
    rw [ht]
    exact model_empty s w hs h0 _ _ _ rfl
end Go.Proofs.Qxb6600874a
