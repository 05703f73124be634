/-
  THE WALK of FnParsenumWholeSpec, at a start and an end inside the text.
-/
import Derived.Test.YoedmwItoa
import Derived.WalkLawsBesides
import Derived.WalkSpells
namespace Go.Proofs.Yoedmw
open Go.RowKit Plain

theorem zzparsenum_empty (s : ByteArray) (a b : Nat) (w : World) (hab : a < b) (hb : b ≤ s.size) (hs : s.size ≤ 2097152) (hR : IsRun s a b []) :
    Calls Edmg.prog 6 #[.string s, .int .i64 a, .int .i64 b] w fun e w' => e = .returned (.tuple #[.int .i64 0, .bool false, .int .i64 a]) ∧ w = w' := by
  refine (zzparsenum_some s a b [] w hab hb hs hR).mono ?_
  rintro e w' ⟨rfl, rfl⟩
  exact ⟨ret_pn rfl rfl (by rw [pnNew_fit (by simp [val])]; simp), rfl⟩
theorem zzparsenum_big (s : ByteArray) (a b : Nat) (R : List UInt8) (w : World) (hab : a < b) (hb : b ≤ s.size) (hs : s.size ≤ 2097152) (hR : IsRun s a b R) (h : 1000000 < val R.dropLast) :
    Calls Edmg.prog 6 #[.string s, .int .i64 a, .int .i64 b] w fun e w' => e = .returned (.tuple #[.int .i64 0, .bool false, .int .i64 b]) ∧ w = w' := by
  refine (zzparsenum_some s a b R w hab hb hs hR).mono ?_
  rintro e w' ⟨rfl, rfl⟩
  exact ⟨ret_pn (by rw [pnNum_big h]; rfl) (by rw [pnIs_big h]) (by rw [pnNew_big h]), rfl⟩
theorem zzparsenum_fit (s : ByteArray) (a b : Nat) (R : List UInt8) (w : World) (hab : a < b) (hb : b ≤ s.size) (hs : s.size ≤ 2097152) (hR : IsRun s a b R) (h : val R.dropLast ≤ 1000000) (h0 : 0 < R.length) :
    Calls Edmg.prog 6 #[.string s, .int .i64 a, .int .i64 b] w fun e w' => e = .returned (.tuple #[.int .i64 (val R), .bool true, .int .i64 (a + R.length : Nat)]) ∧ w = w' := by
  refine (zzparsenum_some s a b R w hab hb hs hR).mono ?_
  rintro e w' ⟨rfl, rfl⟩
  exact ⟨ret_pn (by rw [pnNum_fit h]) (by rw [pnIs_fit h]; simpa using h0) (by rw [pnNew_fit h]), rfl⟩

/-- No digit at the start. -/
theorem whole_empty (s : ByteArray) (a b : Nat) (w : World) (hab : a < b) (hb : b ≤ s.size) (hs : s.size ≤ 1048576) (hR : IsRun s a b []) :
    Calls Edmg.prog 3 #[.string s, .int .i64 a, .int .i64 b] w fun e w' => e = .returned (.bool true) ∧ Grown w w' := by
  have hother := hR.other (by simpa using hab) (by simp; omega)
  simp only [List.length_nil, Nat.add_zero] at hother
  have hd0 : decide (b ≤ a) = false := by simp; omega
  have hd1 : decide (a < b) = true := by simp; omega
  have hd2 : decide ((a : Int) < 0) = false := by simp
  have hd3 : decide (s.size < b) = false := by simp; omega
  go_enter Edmg.func3, Edmg.ntmps3
  go_wp2_with (first
    | (go_at_call 5; refine (bytesWhole_yes _ _ _ _ (by omega)).mono ?_; rintro e w' ⟨rfl, rfl⟩)
    | (go_at_call 6; refine (zzparsenum_empty _ _ _ _ hab hb (by omega) hR).mono ?_; rintro e w' ⟨rfl, rfl⟩))
  go_loop [10] (fun j => j = .int .i64 a) (fun _ => 0)
  case atStart => rfl
  case round =>
    subst hrel
    go_wp2_with (go_at_call 7; refine (isDigit_no _ _ (by omega)).mono ?_; rintro e w' ⟨rfl, rfl⟩)
    go_ret
    exact ⟨rfl, Grown.refl _⟩

theorem sevenBig {s : ByteArray} {a b z : Nat} {R : List UInt8} (h : Lead s a b R z) (h7 : R.length - 1 - z = 7) (hv : 1000000 < val R.dropLast) :
    Op.bytesLess (s.extract (a + z) (a + R.length - 1)).toList [49, 48, 48, 48, 48, 48, 48] = false ∧ ((s.extract (a + z) (a + R.length - 1)).toList == [49, 48, 48, 48, 48, 48, 48]) = false := by
  have := h.seven h7 (a + z) (a + R.length - 1) rfl (by omega)
  rw [decide_eq_true hv, ← ByteArray.toList_eq] at this
  simpa [million] using this
theorem sevenFit {s : ByteArray} {a b z : Nat} {R : List UInt8} (h : Lead s a b R z) (h7 : R.length - 1 - z = 7) (hv : val R.dropLast ≤ 1000000) :
    Op.bytesLess (s.extract (a + z) (a + R.length - 1)).toList [49, 48, 48, 48, 48, 48, 48] = true ∨
      ((s.extract (a + z) (a + R.length - 1)).toList == [49, 48, 48, 48, 48, 48, 48]) = true := by
  have := h.seven h7 (a + z) (a + R.length - 1) rfl (by omega)
  rw [decide_eq_false (by omega), ← ByteArray.toList_eq, Bool.not_eq_false', Bool.or_eq_true] at this
  exact this

set_option maxRecDepth 100000 in
set_option maxHeartbeats 1600000 in
/-- The run is too large. -/
theorem whole_big (s : ByteArray) (a b : Nat) (R : List UInt8) (z : Nat) (w : World) (hab : a < b) (hb : b ≤ s.size) (hs : s.size ≤ 1048576) (hR : Lead s a b R z) (hv : 1000000 < val R.dropLast) :
    Calls Edmg.prog 3 #[.string s, .int .i64 a, .int .i64 b] w fun e w' => e = .returned (.bool true) ∧ Grown w w' := by
  have hle := hR.run.le
  have hz := hR.le
  have h7 := hR.big hv
  have hd4 : decide ((1048576 : Int) < (s.size : Int)) = false := by simp; omega
  have hd5 : ((a : Int) + (R.length : Int) == (a : Int)) = false := by simp; omega
  have hd0 : decide (b ≤ a) = false := by simp; omega
  have hd1 : decide (a < b) = true := by simp; omega
  have hd2 : decide ((a : Int) < 0) = false := by simp
  have hd3 : decide (s.size < b) = false := by simp; omega
  go_enter Edmg.func3, Edmg.ntmps3
  go_wp2_with (first
    | (go_at_call 5; refine (bytesWhole_yes _ _ _ _ (by omega)).mono ?_; rintro e w' ⟨rfl, rfl⟩)
    | (go_at_call 6; refine (zzparsenum_big _ _ _ R _ hab hb (by omega) hR.run hv).mono ?_; rintro e w' ⟨rfl, rfl⟩))
  go_loop [10] (fun j => ∃ k : Nat, k ≤ R.length ∧ j = .int .i64 (a + k : Nat)) (fun j => b - (intOf j).toNat)
  case atStart => exact ⟨0, Nat.zero_le _, rfl⟩
  case round =>
    obtain ⟨k, hk, rfl⟩ := hrel
    by_cases hlt : k < R.length
    · obtain ⟨d1, d2⟩ := hR.run.digit k hlt (by omega)
      have hab2 : a + k < b := by omega
      go_wp2_with (go_at_call 7; refine (isDigit_yes _ _ (by omega) (by omega)).mono ?_; rintro e w' ⟨rfl, rfl⟩)
      go_round
      case rel => exact ⟨k + 1, hlt, by go_num⟩
      case measure => simp [intOf]; omega
    · obtain rfl : R.length = k := by omega
      rcases hR.run.way with ⟨h2, hend, ho⟩ | hend
      all_goals
        go_wp2_with (go_at_call 7; refine (isDigit_no _ _ (by omega)).mono ?_; rintro e w' ⟨rfl, rfl⟩)
        go_loop [11] (fun j => ∃ k : Nat, k ≤ z ∧ j = .int .i64 (a + k : Nat)) (fun j => b - (intOf j).toNat)
        case atStart => exact ⟨0, Nat.zero_le _, rfl⟩
        case round =>
          obtain ⟨k, hk, rfl⟩ := hrel
          by_cases hlt : k < z
          · obtain ⟨d1, d2⟩ := hR.zero k hlt (by omega)
            go_wp2
            go_round
            case rel => exact ⟨k + 1, hlt, by go_num⟩
            case measure => simp [intOf]; omega
          · obtain rfl : z = k := by omega
            have hnz := hR.nonzero (by omega) (by omega)
            by_cases h8 : 7 < R.length - 1 - z
            · go_wp2
              go_ret
              exact ⟨rfl, Grown.refl _⟩
            · obtain ⟨hA, hB⟩ := sevenBig hR (by omega) hv
              go_wp2
              go_ret
              exact ⟨rfl, Grown.refl _⟩

end Go.Proofs.Yoedmw
