/-
  THE WALK of FnParsenumRoundTrip.
-/
import Derived.Test.YoedmwItoa
import Derived.WalkLawsBesides
import Derived.WalkSpells
namespace Go.Proofs.Yoedmw
open Go.RowKit Plain

theorem bytesRound_no (s t : ByteArray) (n : Int) (w : World) (hm : s.size ≤ 9223372036854775807) (hm2 : t.size ≤ 9223372036854775807) (h : (1048576 : Int) < (s.size : Int) + (t.size : Int)) :
    Calls Edmg.prog 9 #[.string s, .int .i64 n, .string t] w fun e w' => e = .returned (.bool false) ∧ w = w' := by
  by_cases h1 : (1048576 : Int) < s.size
  · go_enter Edmg.func9, Edmg.ntmps9
    go_wp2
    go_ret
    exact ⟨rfl, rfl⟩
  · by_cases h2 : (1048576 : Int) < t.size
    · go_enter Edmg.func9, Edmg.ntmps9
      go_wp2
      go_ret
      exact ⟨rfl, rfl⟩
    · go_enter Edmg.func9, Edmg.ntmps9
      go_wp2
      go_ret
      exact ⟨rfl, rfl⟩
theorem bytesRound_yes (s t : ByteArray) (n : Int) (w : World) (h : (s.size : Int) + (t.size : Int) ≤ 1048576) :
    Calls Edmg.prog 9 #[.string s, .int .i64 n, .string t] w fun e w' => e = .returned (.bool true) ∧ w = w' := by
  go_enter Edmg.func9, Edmg.ntmps9
  go_wp2
  go_ret
  exact ⟨rfl, rfl⟩

/-- A run of digits between two texts. -/
theorem isRun_join (s d t : ByteArray) (R : List UInt8) (hd : d.data.toList = R) (hR : ∀ c ∈ R, dig c = true) (ht : ∀ h : 0 < t.size, dig t[0] = false) :
    IsRun (s ++ d ++ t) s.size (s ++ d ++ t).size R := by
  have hl : d.size = R.length := by rw [← hd]; rfl
  have e : (s ++ d ++ t).data.toList = s.data.toList ++ (R ++ t.data.toList) := by
    rw [ByteArray.data_append, ByteArray.data_append, Array.toList_append, Array.toList_append, hd, List.append_assoc]
  have hs : s.data.toList.length = s.size := rfl
  have hsz : (s ++ d ++ t).size = s.size + R.length + t.size := by rw [ByteArray.size_append, ByteArray.size_append, hl]
  have key : ∀ (i : Nat) (h : i < (s ++ d ++ t).size), (s ++ d ++ t).data.toList[i]? = some (s ++ d ++ t)[i] := fun i h => List.getElem?_eq_getElem (show i < (s ++ d ++ t).data.toList.length from h)
  refine ⟨by omega, Nat.le_refl _, hR, fun k hk h2 => ?_, fun h1 h2 => ?_⟩
  · have := key _ h2
    rw [e, List.getElem?_append_right (by omega), hs, show s.size + k - s.size = k by omega, List.getElem?_append_left hk, List.getElem?_eq_getElem hk] at this
    exact (Option.some.inj this).symm
  · have := key _ h2
    rw [e, List.getElem?_append_right (by omega), hs, show s.size + R.length - s.size = R.length by omega, List.getElem?_append_right (Nat.le_refl _), Nat.sub_self] at this
    have h0 : 0 < t.size := by omega
    have h3 : t.data.toList[0]? = some t[0] := List.getElem?_eq_getElem (show 0 < t.data.toList.length from h0)
    rw [h3] at this
    rw [← Option.some.inj this]
    exact ht h0

/-- d is n's numeral. -/
structure IsNum (d : ByteArray) (n : Nat) : Prop where
  eq : d.data.toList = Lib.decDigits n
theorem IsNum.len {d : ByteArray} {n : Nat} (h : IsNum d n) : (Lib.decDigits n).length = d.size := by rw [← h.eq]; rfl

theorem itoa_some (n : Nat) (w : World) (hn : n ≤ 9223372036854775807) :
    Calls Edmg.prog 8 #[.int .i64 n] w fun e w' => ∃ d : ByteArray, e = .returned (.string d) ∧ IsNum d n ∧ 1 ≤ d.size ∧ d.size ≤ 19 ∧ Grown w w' := by
  have hl := dec_length_le n (by omega)
  by_cases h0 : 0 < n
  · refine (itoa_pos n w h0 hn).mono ?_
    rintro e w' ⟨rfl, C, rfl⟩
    exact ⟨_, rfl, ⟨rfl⟩, hl.2, hl.1, (Grown.refl _).alloc _ _⟩
  · obtain rfl : n = 0 := by omega
    refine (itoa_zero w).mono ?_
    rintro e w' ⟨rfl, rfl⟩
    exact ⟨_, rfl, ⟨rfl⟩, hl.2, hl.1, Grown.refl _⟩

theorem parse_fit (s : ByteArray) (a b : Nat) (n : Nat) (w : World) (hab : a < b) (hb : b ≤ s.size) (hs : s.size ≤ 2097152) (hR : IsRun s a b (Lib.decDigits n)) (h : n ≤ 10000009) :
    Calls Edmg.prog 6 #[.string s, .int .i64 a, .int .i64 b] w fun e w' => e = .returned (.tuple #[.int .i64 n, .bool true, .int .i64 ((a : Int) + ((Lib.decDigits n).length : Int))]) ∧ w = w' := by
  have hv : val (Lib.decDigits n).dropLast ≤ 1000000 := by rw [val_dec_dropLast]; omega
  refine (zzparsenum_some s a b _ w hab hb hs hR).mono ?_
  rintro e w' ⟨rfl, rfl⟩
  exact ⟨ret_pn (by rw [pnNum_fit hv, val_dec]) (by rw [pnIs_fit hv]; have := dec_len_pos n; simp; omega) (by rw [pnNew_fit hv]; omega), rfl⟩
theorem parse_big (s : ByteArray) (a b : Nat) (n : Nat) (w : World) (hab : a < b) (hb : b ≤ s.size) (hs : s.size ≤ 2097152) (hR : IsRun s a b (Lib.decDigits n)) (h : 10000009 < n) :
    Calls Edmg.prog 6 #[.string s, .int .i64 a, .int .i64 b] w fun e w' => e = .returned (.tuple #[.int .i64 0, .bool false, .int .i64 b]) ∧ w = w' := by
  have hv : 1000000 < val (Lib.decDigits n).dropLast := by rw [val_dec_dropLast]; omega
  refine (zzparsenum_some s a b _ w hab hb hs hR).mono ?_
  rintro e w' ⟨rfl, rfl⟩
  exact ⟨ret_pn (by rw [pnNum_big hv]; rfl) (by rw [pnIs_big hv]) (by rw [pnNew_big hv]), rfl⟩

theorem join_fit (s d t : ByteArray) (n : Nat) (w : World) (hd : IsNum d n) (hst : (s.size : Int) + (t.size : Int) ≤ 1048576) (hd1 : 1 ≤ d.size) (hd2 : d.size ≤ 19) (ht : ∀ h : 0 < t.size, dig t[0] = false) (h : n ≤ 10000009) :
    Calls Edmg.prog 6 #[.string (s ++ d ++ t), .int .i64 s.size, .int .i64 ((s.size : Int) + (d.size : Int) + (t.size : Int))] w fun e w' => e = .returned (.tuple #[.int .i64 n, .bool true, .int .i64 ((s.size : Int) + (d.size : Int))]) ∧ w = w' := by
  have hR := isRun_join s d t _ hd.eq (dec_digits n) ht
  have hsz : (s ++ d ++ t).size = s.size + d.size + t.size := by rw [ByteArray.size_append, ByteArray.size_append]
  have hc := parse_fit (s ++ d ++ t) s.size _ n w (by omega) (Nat.le_refl _) (by omega) hR h
  rw [hsz, hd.len, show ((s.size + d.size + t.size : Nat) : Int) = (s.size : Int) + (d.size : Int) + (t.size : Int) by omega] at hc
  exact hc
theorem join_big (s d t : ByteArray) (n : Nat) (w : World) (hd : IsNum d n) (hst : (s.size : Int) + (t.size : Int) ≤ 1048576) (hd1 : 1 ≤ d.size) (hd2 : d.size ≤ 19) (ht : ∀ h : 0 < t.size, dig t[0] = false) (h : 10000009 < n) :
    Calls Edmg.prog 6 #[.string (s ++ d ++ t), .int .i64 s.size, .int .i64 ((s.size : Int) + (d.size : Int) + (t.size : Int))] w fun e w' => e = .returned (.tuple #[.int .i64 0, .bool false, .int .i64 ((s.size : Int) + (d.size : Int) + (t.size : Int))]) ∧ w = w' := by
  have hR := isRun_join s d t _ hd.eq (dec_digits n) ht
  have hsz : (s ++ d ++ t).size = s.size + d.size + t.size := by rw [ByteArray.size_append, ByteArray.size_append]
  have hc := parse_big (s ++ d ++ t) s.size _ n w (by omega) (Nat.le_refl _) (by omega) hR h
  rw [hsz, show ((s.size + d.size + t.size : Nat) : Int) = (s.size : Int) + (d.size : Int) + (t.size : Int) by omega] at hc
  exact hc

set_option maxHeartbeats 1600000 in
set_option maxRecDepth 100000 in
theorem round_in (s t : ByteArray) (n : Nat) (w : World) (hst : (s.size : Int) + (t.size : Int) ≤ 1048576) (hn : n ≤ 1073741824) (ht : ∀ h : 0 < t.size, dig t[0] = false) :
    Calls Edmg.prog 4 #[.string s, .int .i64 n, .string t] w fun e w' => e = .returned (.bool true) ∧ Grown w w' := by
  have HT : Hid (∀ h : 0 < t.size, dig t[0] = false) := ht
  by_cases hfit : n ≤ 10000009
  · by_cases h0 : 0 < t.size
    · have ht0 := ht h0
      simp only [dig, decide_eq_false_iff_not] at ht0
      clear ht
      go_enter Edmg.func4, Edmg.ntmps4
      go_wp2_with (first
        | (go_at_call 9; refine (bytesRound_yes _ _ _ _ (by omega)).mono ?_; rintro e w' ⟨rfl, rfl⟩)
        | (go_at_call 7; refine (isDigit_no _ _ (by omega)).mono ?_; rintro e w' ⟨rfl, rfl⟩)
        | (go_at_call 8; refine (itoa_some _ _ (by omega)).mono ?_; rintro e w' ⟨d, rfl, hd, hd1, hd2, hg⟩)
        | (go_at_call 6; refine (join_fit _ _ _ _ _ hd hst hd1 hd2 HT hfit).mono ?_; rintro e w' ⟨rfl, rfl⟩))
      go_ret
      exact ⟨rfl, hg⟩
    · clear ht
      go_enter Edmg.func4, Edmg.ntmps4
      go_wp2_with (first
        | (go_at_call 9; refine (bytesRound_yes _ _ _ _ (by omega)).mono ?_; rintro e w' ⟨rfl, rfl⟩)
        | (go_at_call 8; refine (itoa_some _ _ (by omega)).mono ?_; rintro e w' ⟨d, rfl, hd, hd1, hd2, hg⟩)
        | (go_at_call 6; refine (join_fit _ _ _ _ _ hd hst hd1 hd2 HT hfit).mono ?_; rintro e w' ⟨rfl, rfl⟩))
      go_ret
      exact ⟨rfl, hg⟩
  · by_cases h0 : 0 < t.size
    · have ht0 := ht h0
      simp only [dig, decide_eq_false_iff_not] at ht0
      clear ht
      go_enter Edmg.func4, Edmg.ntmps4
      go_wp2_with (first
        | (go_at_call 9; refine (bytesRound_yes _ _ _ _ (by omega)).mono ?_; rintro e w' ⟨rfl, rfl⟩)
        | (go_at_call 7; refine (isDigit_no _ _ (by omega)).mono ?_; rintro e w' ⟨rfl, rfl⟩)
        | (go_at_call 8; refine (itoa_some _ _ (by omega)).mono ?_; rintro e w' ⟨d, rfl, hd, hd1, hd2, hg⟩)
        | (go_at_call 6; refine (join_big _ _ _ _ _ hd hst hd1 hd2 HT (by omega)).mono ?_; rintro e w' ⟨rfl, rfl⟩))
      go_ret
      exact ⟨rfl, hg⟩
    · clear ht
      go_enter Edmg.func4, Edmg.ntmps4
      go_wp2_with (first
        | (go_at_call 9; refine (bytesRound_yes _ _ _ _ (by omega)).mono ?_; rintro e w' ⟨rfl, rfl⟩)
        | (go_at_call 8; refine (itoa_some _ _ (by omega)).mono ?_; rintro e w' ⟨d, rfl, hd, hd1, hd2, hg⟩)
        | (go_at_call 6; refine (join_big _ _ _ _ _ hd hst hd1 hd2 HT (by omega)).mono ?_; rintro e w' ⟨rfl, rfl⟩))
      go_ret
      exact ⟨rfl, hg⟩
end Go.Proofs.Yoedmw
