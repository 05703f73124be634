/-
  THE WALK of FnParsenumWholeSpec where the run of digits is a number.
-/
import Derived.Test.YoedmwWhole
import Derived.Deep.RegionHeld3
import Derived.Deep.DrawnRows
namespace Go.Proofs.Yoedmw
open Go.RowKit Plain

theorem itoa_any (n : Nat) (w : World) (hn : n ≤ 9223372036854775807) :
    Calls Edmg.prog 8 #[.int .i64 n] w fun e w' => e = .returned (.string ⟨(Lib.decDigits n).toArray⟩) ∧ Grown w w' := by
  by_cases h0 : 0 < n
  · refine (itoa_pos n w h0 hn).mono ?_
    rintro e w' ⟨rfl, C, rfl⟩
    exact ⟨rfl, (Grown.refl _).alloc _ _⟩
  · obtain rfl : n = 0 := by omega
    refine (itoa_zero w).mono ?_
    rintro e w' ⟨rfl, rfl⟩
    exact ⟨rfl, Grown.refl _⟩

/-- How the second and the third loop end, and what the test on seven digits says. -/
theorem ways {s : ByteArray} {a b z : Nat} {R : List UInt8} (h : Lead s a b R z) (hv : val R.dropLast ≤ 1000000) (h0 : 0 < R.length) :
    (∃ h2 : a + z < s.size, z < R.length - 1 ∧ ((s[a + z].toNat : Int) == 48) = false ∧ (((a : Int) + (R.length : Int) - 1 - ((a : Int) + (z : Int))) == 7) = false) ∨
    (∃ h2 : a + z < s.size, z < R.length - 1 ∧ ((s[a + z].toNat : Int) == 48) = false ∧ (((a : Int) + (R.length : Int) - 1 - ((a : Int) + (z : Int))) == 7) = true ∧
      Op.bytesLess (s.extract (a + z) (a + R.length - 1)).toList [49, 48, 48, 48, 48, 48, 48] = true) ∨
    (∃ h2 : a + z < s.size, z < R.length - 1 ∧ ((s[a + z].toNat : Int) == 48) = false ∧ (((a : Int) + (R.length : Int) - 1 - ((a : Int) + (z : Int))) == 7) = true ∧
      ((s.extract (a + z) (a + R.length - 1)).toList == [49, 48, 48, 48, 48, 48, 48]) = true) ∨
    (R.length - 1 ≤ z ∧ (((a : Int) + (R.length : Int) - 1 - ((a : Int) + (z : Int))) == 7) = false) := by
  have hle := h.run.le
  have hhi := h.run.hi
  have hz := h.le
  have h7 := h.fit hv
  by_cases hz1 : z < R.length - 1
  · have h2 : a + z < s.size := by omega
    have hnz : ((s[a + z].toNat : Int) == 48) = false := by
      have := h.nonzero hz1 h2
      rw [beq_eq_false_iff_ne]; omega
    by_cases h8 : R.length - 1 - z = 7
    · have e7 : (((a : Int) + (R.length : Int) - 1 - ((a : Int) + (z : Int))) == 7) = true := by rw [beq_iff_eq]; omega
      rcases sevenFit h h8 hv with hA | hB
      · exact Or.inr (Or.inl ⟨h2, hz1, hnz, e7, hA⟩)
      · exact Or.inr (Or.inr (Or.inl ⟨h2, hz1, hnz, e7, hB⟩))
    · exact Or.inl ⟨h2, hz1, hnz, by rw [beq_eq_false_iff_ne]; omega⟩
  · exact Or.inr (Or.inr (Or.inr ⟨by omega, by rw [beq_eq_false_iff_ne]; omega⟩))

set_option maxRecDepth 100000 in
set_option maxHeartbeats 1600000 in
theorem whole_fit (s : ByteArray) (a b : Nat) (R : List UInt8) (z : Nat) (w : World) (hab : a < b) (hb : b ≤ s.size) (hs : s.size ≤ 1048576) (hR : Lead s a b R z) (hv : val R.dropLast ≤ 1000000) (h0 : 0 < R.length) :
    Calls Edmg.prog 3 #[.string s, .int .i64 a, .int .i64 b] w fun e w' => e = .returned (.bool true) ∧ Grown w w' := by
  have hle := hR.run.le
  have hz := hR.le
  have h7 := hR.fit hv
  have hval : val R ≤ 10000009 := by have := val_dropLast R hR.run.dig; omega
  have hd4 : decide ((1048576 : Int) < (s.size : Int)) = false := by simp; omega
  have hd5 : ((a : Int) + (R.length : Int) == (a : Int)) = false := by simp; omega
  have hsl : ∀ W, (Instr.slice 9 (.string s) (some (.int .i64 ((a : Int) + (z : Int)))) (some (.int .i64 ((a : Int) + (R.length : Int)))) none).run Edmg.prog W = .ok (.string ⟨(Lib.decDigits (val R)).toArray⟩) W := fun W => by
    have hx := hR.run.hi
    rw [run_slice_string W 9 s .i64 .i64 _ _ Edmg.underlying9 (by omega) (by omega) (by omega)]
    have := hR.numeral h0 ((a : Int) + (z : Int)).toNat ((a : Int) + (R.length : Int)).toNat (by omega) (by omega)
    rw [← this]
  have hd6 : decide ((7 : Int) < (a : Int) + (R.length : Int) - 1 - ((a : Int) + (z : Int))) = false := by rw [decide_eq_false_iff_not]; omega
  have hd0 : decide (b ≤ a) = false := by simp; omega
  have hd1 : decide (a < b) = true := by simp; omega
  have hd2 : decide ((a : Int) < 0) = false := by simp
  have hd3 : decide (s.size < b) = false := by simp; omega
  go_enter Edmg.func3, Edmg.ntmps3
  go_wp2_with (first
    | (go_at_call 5; refine (bytesWhole_yes _ _ _ _ (by omega)).mono ?_; rintro e w' ⟨rfl, rfl⟩)
    | (go_at_call 6; refine (zzparsenum_fit _ _ _ R _ hab hb (by omega) hR.run hv h0).mono ?_; rintro e w' ⟨rfl, rfl⟩))
  go_loop [10] (fun j => ∃ k : Nat, k ≤ R.length ∧ j = .int .i64 (a + k : Nat)) (fun j => b - (intOf j).toNat)
  case atStart => exact ⟨0, Nat.zero_le _, rfl⟩
  case round =>
    obtain ⟨k, hk, rfl⟩ := hrel
    by_cases hlt : k < R.length
    · obtain ⟨d1, d2⟩ := hR.run.digit k hlt (by omega)
      have hab2 : a + k < b := by omega
      go_wp2_with (go_at_call 7; refine (isDigit_yes _ _ (by omega) (by omega)).mono ?_; rintro e w' ⟨rfl, rfl⟩)
      go_round
      case rel => exact ⟨k + 1, hlt, by go_num⟩
      case measure => simp [intOf]; omega
    · obtain rfl : R.length = k := by omega
      rcases hR.run.way with ⟨h2, hend, ho⟩ | hend
      all_goals
        go_wp2_with (go_at_call 7; refine (isDigit_no _ _ (by omega)).mono ?_; rintro e w' ⟨rfl, rfl⟩)
        go_loop [11] (fun j => ∃ k : Nat, k ≤ z ∧ j = .int .i64 (a + k : Nat)) (fun j => b - (intOf j).toNat)
        case atStart => exact ⟨0, Nat.zero_le _, rfl⟩
        case round =>
          obtain ⟨k, hk, rfl⟩ := hrel
          by_cases hlt : k < z
          · obtain ⟨d1, d2⟩ := hR.zero k hlt (by omega)
            go_wp2
            go_round
            case rel => exact ⟨k + 1, hlt, by go_num⟩
            case measure => simp [intOf]; omega
          · obtain rfl : z = k := by omega
            rcases ways hR hv h0 with ⟨h3, hz1, hnz, e7⟩ | ⟨h3, hz1, hnz, e7, hA⟩ | ⟨h3, hz1, hnz, e7, hB⟩ | ⟨hz1, e7⟩
            all_goals
              go_wp2
              go_loop [14] (fun j => ∃ k : Nat, k ≤ z ∧ j = .int .i64 (a + k : Nat)) (fun j => b - (intOf j).toNat)
              case atStart => exact ⟨0, Nat.zero_le _, rfl⟩
              case round =>
                obtain ⟨k, hk, rfl⟩ := hrel
                by_cases hlt : k < z
                · obtain ⟨d1, d2⟩ := hR.zero k hlt (by omega)
                  go_wp2
                  go_round
                  case rel => exact ⟨k + 1, hlt, by go_num⟩
                  case measure => simp [intOf]; omega
                · obtain rfl : z = k := by omega
                  go_wp2
                  go_region_held3 (fun _ => True) (trivial) (first | (go_at_call 8; refine (itoa_any _ _ (by omega)).mono ?_; rintro e w' ⟨rfl, hg⟩))
                  go_wp2
                  go_ret
                  exact ⟨rfl, hg⟩

end Go.Proofs.Yoedmw
