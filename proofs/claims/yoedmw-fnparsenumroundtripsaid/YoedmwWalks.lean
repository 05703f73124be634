/-
  THE WALKS of the small functions: tooLarge, zzIsDigit, the two bounds on lengths, parsenum, ZZparsenum.
-/
import Derived.Test.YoedmwRows
import Derived.Test.YoedmwPlain
import Derived.WalkKit
import Derived.ProofKit
import Derived.Deep.QuietTactic
import Derived.BigQuiet
namespace Go.Proofs.Yoedmw
open Go.RowKit Plain

theorem tooLarge_yes (n : Int) (w : World) (h : 1000000 < n) :
    Calls Edmg.prog 11 #[.int .i64 n] w fun e w' => e = .returned (.bool true) ∧ w = w' := by
  go_enter Edmg.func11, Edmg.ntmps11
  go_wp2
  go_ret
  exact ⟨rfl, rfl⟩
theorem tooLarge_no (n : Int) (w : World) (h : n ≤ 1000000) (h0 : 0 ≤ n) :
    Calls Edmg.prog 11 #[.int .i64 n] w fun e w' => e = .returned (.bool false) ∧ w = w' := by
  have h1 : decide (1000000 < n) = false := by simp; omega
  have h2 : decide (n < -1000000) = false := by simp; omega
  go_enter Edmg.func11, Edmg.ntmps11
  go_wp2
  go_ret
  exact ⟨rfl, rfl⟩

theorem isDigit_yes (n : Int) (w : World) (h : 48 ≤ n) (h2 : n ≤ 57) :
    Calls Edmg.prog 7 #[.int .u8 n] w fun e w' => e = .returned (.bool true) ∧ w = w' := by
  go_enter Edmg.func7, Edmg.ntmps7
  go_wp2
  go_ret
  exact ⟨rfl, rfl⟩
theorem isDigit_no (n : Int) (w : World) (h : n < 48 ∨ 57 < n) :
    Calls Edmg.prog 7 #[.int .u8 n] w fun e w' => e = .returned (.bool false) ∧ w = w' := by
  rcases h with h | h
  · go_enter Edmg.func7, Edmg.ntmps7
    go_wp2
    go_ret
    exact ⟨rfl, rfl⟩
  · have h48 : 48 ≤ n := by omega
    have h57 : decide (n ≤ 57) = false := by simp; omega
    go_enter Edmg.func7, Edmg.ntmps7
    go_wp2
    go_ret
    exact ⟨rfl, rfl⟩

theorem bytesWhole_no (s : ByteArray) (a b : Int) (w : World) (h : (1048576 : Int) < s.size) :
    Calls Edmg.prog 5 #[.string s, .int .i64 a, .int .i64 b] w fun e w' => e = .returned (.bool false) ∧ w = w' := by
  go_enter Edmg.func5, Edmg.ntmps5
  go_wp2
  go_ret
  exact ⟨rfl, rfl⟩
theorem bytesWhole_yes (s : ByteArray) (a b : Int) (w : World) (h : (s.size : Int) ≤ 1048576) :
    Calls Edmg.prog 5 #[.string s, .int .i64 a, .int .i64 b] w fun e w' => e = .returned (.bool true) ∧ w = w' := by
  go_enter Edmg.func5, Edmg.ntmps5
  go_wp2
  go_ret
  exact ⟨rfl, rfl⟩

theorem parsenum_none (s : ByteArray) (a b : Int) (w : World) (h : b ≤ a) :
    Calls Edmg.prog 10 #[.string s, .int .i64 a, .int .i64 b] w fun e w' => e = .returned (.tuple #[.int .i64 0, .bool false, .int .i64 b]) ∧ w = w' := by
  go_enter Edmg.func10, Edmg.ntmps10
  go_wp2
  go_ret3
  exact ⟨rfl, rfl⟩

theorem ret_pn {n n' i i' : Int} {b b' : Bool} (h1 : n = n') (h2 : b = b') (h3 : i = i') :
    Ending.returned (.tuple #[.int .i64 n, .bool b, .int .i64 i]) = .returned (.tuple #[.int .i64 n', .bool b', .int .i64 i']) := by rw [h1, h2, h3]
theorem ret_fit (R : List UInt8) (a b : Nat) (hlo : soFar R (R.length - 1) ≤ 1000000) :
    Ending.returned (.tuple #[.int .i64 (soFar R R.length), .bool (decide (0 < R.length)), .int .i64 ((a : Int) + (R.length : Int))]) = .returned (.tuple #[.int .i64 (pnNum R), .bool (pnIs R), .int .i64 (pnNew R a b)]) := by
  rw [soFar_last] at hlo
  exact ret_pn (by rw [pnNum_fit hlo, soFar_all]) (by rw [pnIs_fit hlo]) (by rw [pnNew_fit hlo]; omega)

set_option maxHeartbeats 400000 in
theorem parsenum_some (s : ByteArray) (a b : Nat) (R : List UInt8) (w : World) (hab : a < b) (hb : b ≤ s.size) (hs : s.size ≤ 2097152) (hR : IsRun s a b R) :
    Calls Edmg.prog 10 #[.string s, .int .i64 a, .int .i64 b] w fun e w' => e = .returned (.tuple #[.int .i64 (pnNum R), .bool (pnIs R), .int .i64 (pnNew R a b)]) ∧ w = w' := by
  have hle := hR.le
  have hd0 : decide (b ≤ a) = false := by simp; omega
  go_enter Edmg.func10, Edmg.ntmps10
  go_wp2
  go_loop [6, 7, 8] (fun n t i => ∃ k : Nat, k ≤ R.length ∧ soFar R (k - 1) ≤ 1000000 ∧ n = .int .i64 (soFar R k) ∧ t = .bool (decide (0 < k)) ∧ i = .int .i64 (a + k : Nat)) (fun _ _ i => b - (intOf i).toNat)
  case atStart => exact ⟨0, Nat.zero_le _, by rw [soFar_zero]; omega, by rw [soFar_zero]; rfl, rfl, rfl⟩
  case round =>
    obtain ⟨k, hk, hlo, rfl, rfl, rfl⟩ := hrel
    have hup := soFar_le R hR.dig k hlo hk
    by_cases hlt : k < R.length
    · obtain ⟨d1, d2⟩ := hR.digit k hlt (by omega)
      have hab2 : a + k < b := by omega
      by_cases hbig : 1000000 < soFar R k
      · go_wp2_with (go_at_call 11; refine (tooLarge_yes _ _ (by omega)).mono ?_; rintro e w' ⟨rfl, rfl⟩)
        go_ret3
        have ho := pn_over R k hlt hbig
        exact ⟨ret_pn (by rw [pnNum_big ho]; rfl) (by rw [pnIs_big ho]) (by rw [pnNew_big ho]), rfl⟩
      · go_wp2_with (go_at_call 11; refine (tooLarge_no _ _ (by omega) (by omega)).mono ?_; rintro e w' ⟨rfl, rfl⟩)
        go_round
        case rel =>
          have hss := soFar_succ R k hlt
          have hgg := hR.get k hlt (by omega)
          rw [← hgg] at hss
          refine ⟨k + 1, hlt, by simpa using hbig, ?_, by simp, by go_num⟩
          rw [hss]
          go_num
        case measure => simp [intOf]; omega
    · have ek : k = R.length := by omega
      subst ek
      by_cases hend : a + R.length < b
      · have hother := hR.other hend (by omega)
        rcases hother with ho | ho
        · go_wp2
          go_ret3
          exact ⟨ret_fit R a b hlo, rfl⟩
        · go_wp2
          go_ret3
          exact ⟨ret_fit R a b hlo, rfl⟩
      · go_wp2
        go_ret3
        exact ⟨ret_fit R a b hlo, rfl⟩

theorem zzparsenum_none (s : ByteArray) (a b : Int) (w : World) (h : b ≤ a) :
    Calls Edmg.prog 6 #[.string s, .int .i64 a, .int .i64 b] w fun e w' => e = .returned (.tuple #[.int .i64 0, .bool false, .int .i64 b]) ∧ w = w' := by
  go_enter Edmg.func6, Edmg.ntmps6
  go_wp2_with (go_at_call 10; refine (parsenum_none _ _ _ _ h).mono ?_; rintro e w' ⟨rfl, rfl⟩)
  go_ret3
  exact ⟨rfl, rfl⟩
theorem zzparsenum_some (s : ByteArray) (a b : Nat) (R : List UInt8) (w : World) (hab : a < b) (hb : b ≤ s.size) (hs : s.size ≤ 2097152) (hR : IsRun s a b R) :
    Calls Edmg.prog 6 #[.string s, .int .i64 a, .int .i64 b] w fun e w' => e = .returned (.tuple #[.int .i64 (pnNum R), .bool (pnIs R), .int .i64 (pnNew R a b)]) ∧ w = w' := by
  go_enter Edmg.func6, Edmg.ntmps6
  go_wp2_with (go_at_call 10; refine (parsenum_some _ _ _ R _ hab hb hs hR).mono ?_; rintro e w' ⟨rfl, rfl⟩)
  go_ret3
  exact ⟨rfl, rfl⟩
end Go.Proofs.Yoedmw
