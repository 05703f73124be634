/-
  THE WALK of zzParseHex on a hexadecimal numeral.
-/
import Derived.Test.YoedmwDoorFmt
import Derived.WalkLawsBesides
namespace Go.Proofs.YoedmwDoor
open Go.RowKit

/-- s spells the digits l. -/
structure HexStr (s : ByteArray) (l : List UInt8) : Prop where
  eq : s.data.toList = l
  hex : Hex l
  lo : 1 ≤ l.length
  hi : l.length ≤ 16
theorem HexStr.size {s : ByteArray} {l : List UInt8} (h : HexStr s l) : s.size = l.length := by rw [← h.eq]; rfl
theorem HexStr.at {s : ByteArray} {l : List UInt8} (h : HexStr s l) (k : Nat) (hk : k < s.size) : s[k] = l[k]'(by rw [← h.size]; exact hk) := by
  have h1 : s.data.toList[k]? = some s[k] := List.getElem?_eq_getElem (show k < s.data.toList.length from hk)
  rw [h.eq, List.getElem?_eq_getElem (by rw [← h.size]; exact hk)] at h1
  exact (Option.some.inj h1).symm

theorem ret_hex {x y : Int} (h : x = y) : Ending.returned (.tuple #[.int .u64 x, .bool true]) = .returned (.tuple #[.int .u64 y, .bool true]) := by rw [h]

theorem or_step (X D : Nat) (x d : Int) (hX : X ≤ 1152921504606846975) (hD : D < 16) (hx : x = (X : Int) * 16) (hd : (D : Int) = d) : bits .or .u64 x d = ((X * 16 + D : Nat) : Int) := by
  subst hd
  rw [hx, show (X : Int) * 16 = ((X * 16 : Nat) : Int) by omega, u64_or_nat _ _ (by omega) (by omega), or_low X D hD]
theorem val_u64 {x y : Int} (h : x = y) : Value.int .u64 x = .int .u64 y := by rw [h]

set_option maxHeartbeats 800000 in
theorem parseHex (s : ByteArray) (l : List UInt8) (h : HexStr s l) (w : World) :
    Calls Edmg.prog 15 #[.string s] w fun e w' => e = .returned (.tuple #[.int .u64 (hexVal l), .bool true]) ∧ w = w' := by
  have h1 : 1 ≤ s.size := by rw [h.size]; exact h.lo
  have h2 : s.size ≤ 16 := by rw [h.size]; exact h.hi
  have hd1 : ((s.size : Int) == 0) = false := by rw [beq_eq_false_iff_ne]; omega
  have hd2 : decide ((16 : Int) < (s.size : Int)) = false := by rw [decide_eq_false_iff_not]; omega
  go_enter Edmg.func15, Edmg.ntmps15
  go_wp2
  go_loop [4, 5, 6, 7] (fun x i _ _ => ∃ k : Nat, k ≤ s.size ∧ i = .int .i64 k ∧ x = .int .u64 (hexVal (l.take k))) (fun _ i _ _ => s.size - (intOf i).toNat)
  case atStart => exact ⟨0, Nat.zero_le _, rfl, rfl⟩
  case round =>
    obtain ⟨k, hk, rfl, rfl⟩ := hrel
    by_cases hlt : k < s.size
    · have hup := hexVal_take l h.hex h.hi k (by rw [← h.size]; exact hlt)
      have hst := hexVal_step l k (by rw [← h.size]; exact hlt)
      rw [← h.at k hlt] at hst
      have hp := hex_parts l h.hex k (by rw [← h.size]; exact hlt)
      rw [← h.at k hlt] at hp
      generalize hexVal (l.take k) = X at *
      have HST : Hid (hexVal (l.take (k + 1)) = X * 16 + hv s[k]) := hst
      clear hst
      rcases hp with ⟨p1, p2, p3⟩ | ⟨p1, p2, p3⟩
      · have HP : Hid ((hv s[k] : Int) = (s[k].toNat : Int) - 48) := p3
        clear p3
        go_wp2
        go_round
        case rel => exact ⟨k + 1, hlt, by go_num, val_u64 (by rw [HST.out]; exact or_step X (hv s[k]) _ _ hup (by have := HP.out; omega) rfl HP.out)⟩
        case measure => simp [intOf]; omega
      · have HP : Hid ((hv s[k] : Int) = (s[k].toNat : Int) - 97 + 10) := p3
        clear p3
        go_wp2
        go_round
        case rel => exact ⟨k + 1, hlt, by go_num, val_u64 (by rw [HST.out]; exact or_step X (hv s[k]) _ _ hup (by have := HP.out; omega) rfl HP.out)⟩
        case measure => simp [intOf]; omega
    · obtain rfl : s.size = k := by omega
      go_wp2
      go_ret2
      exact ⟨ret_hex (by rw [List.take_of_length_le (by rw [h.size]; omega)]), rfl⟩
end Go.Proofs.YoedmwDoor
