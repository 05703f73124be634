/-
  THE WALK of FnFmt0x64RoundTrip.
-/
import Derived.Test.YoedmwDoorParse
namespace Go.Proofs.YoedmwDoor
open Go.RowKit

/-- The flags of a fresh printer whose sharp flag has been set. -/
def fresh (sb : Bool) : Fl := ⟨false, false, sb, false, 0⟩
theorem fresh_wid (sb : Bool) : 0 ≤ (fresh sb).wid ∧ (fresh sb).wid ≤ 65536 := ⟨Int.le_refl 0, by show (0 : Int) ≤ 65536; omega⟩
theorem fmtOut_fresh (sb lead : Bool) (v : Nat) : fmtOut { fresh sb with sh := lead } v = (if lead then [48, 120] else []) ++ hexD v := by
  have hn : numOut { fresh sb with sh := lead } (0 : Int).toNat v = (if lead then [48, 120] else []) ++ hexD v := by
    unfold numOut fresh
    simp
  show padOut false 0 (numOut { fresh sb with sh := lead } (0 : Int).toNat v) = _
  rw [hn]; simp [padOut]

theorem hexD_head : ∀ (f u : Nat), u ≠ 0 → ∃ d, d < 16 ∧ d ≠ 0 ∧ (hexF (f + 1) u).head? = some (hexDig d) ∨ 16 ^ (f + 1) ≤ u
  | 0, u, h => by
    by_cases h1 : u < 16
    · exact ⟨u, Or.inl ⟨h1, h, by rw [hexF_small _ _ h1]; rfl⟩⟩
    · exact ⟨0, Or.inr (by simp; omega)⟩
  | f + 1, u, h => by
    by_cases h1 : u < 16
    · exact ⟨u, Or.inl ⟨h1, h, by rw [hexF_small _ _ h1]; rfl⟩⟩
    · obtain ⟨d, hd | hd⟩ := hexD_head f (u / 16) (by omega)
      · refine ⟨d, Or.inl ⟨hd.1, hd.2.1, ?_⟩⟩
        rw [hexF_big _ _ h1, List.head?_append, hd.2.2]; rfl
      · exact ⟨0, Or.inr (by rw [Nat.pow_succ]; omega)⟩

/-- A numeral of more than one digit does not open with a nought. -/
theorem hexD_first (v : Nat) (hv : v < 18446744073709551616) (hl : 1 < (hexD v).length) : (hexD v).head? ≠ some 48 := by
  have hne : v ≠ 0 := fun e => by rw [e, hexD_small (by omega)] at hl; simp at hl
  have e16 : (16 : Nat) ^ (15 + 1) = 18446744073709551616 := by decide
  obtain ⟨d, h | h⟩ := hexD_head 15 v hne
  · show (hexF 16 v).head? ≠ _
    rw [h.2.2]
    intro e
    have e1 : hexDig d = 48 := Option.some.inj e
    have e2 := hexDig_nat d h.1
    rw [e1] at e2
    have : (48 : UInt8).toNat = 48 := rfl
    have := h.2.1
    split at e2 <;> omega
  · rw [e16] at h; omega

theorem hexStr_D (v : Nat) : HexStr ⟨(hexD v).toArray⟩ (hexD v) := ⟨rfl, hexD_dig v, (hexD_len v).1, (hexD_len v).2⟩

theorem first_ne (s : ByteArray) (v : Nat) (hv : v < 18446744073709551616) (h : HexStr s (hexD v)) (hl : 1 < s.size) : ((s[0].toNat : Int) == 48) = false := by
  have h1 := hexD_first v hv (by rw [← h.size]; exact hl)
  have h2 : (hexD v).head? = some s[0] := by
    rw [h.at 0 (by omega), List.head?_eq_getElem?]
    exact List.getElem?_eq_getElem _
  rw [h2] at h1
  rw [beq_eq_false_iff_ne]
  intro e
  exact h1 (by rw [show s[0] = 48 from UInt8.toNat_inj.1 (by show s[0].toNat = 48; omega)])

set_option maxRecDepth 100000 in
set_option maxHeartbeats 1600000 in
theorem round_walk (w : World) (v : Nat) (sb : Bool) (hv : v < 18446744073709551616) (h2 : 2 ≤ w.heap.size) (hmx : w.cell? ⟨0, 0, none⟩ = some (.int .i64 2147483647)) :
    Calls Edmg.prog 4 #[.int .u64 v, .bool sb] w fun e w' => e = .returned (.bool true) ∧ Below w.heap.size w w' := by
  have HV : Hid (v < 18446744073709551616) := hv
  have H2 : Hid (2 ≤ w.heap.size) := h2
  clear hv
  go_enter Edmg.func4, Edmg.ntmps4
  go_wp2_with fail
  refine (newPrinter _ H2.out hmx).mono ?_
  rintro e w1 ⟨rfl, hP1, hb1⟩
  go_wp2_with fail
  refine (setSharp _ _ _ _ sb hP1).mono ?_
  rintro e w2 ⟨rfl, hw2⟩
  have hG2 : Got w2 w.heap.size (fresh sb) none 0 0 [] := by rw [hw2]; exact ⟨hP1.putSh sb, World.ownsRow_nil _ _ _ _, rfl⟩
  have hb2 : Below w.heap.size w w2 := by rw [hw2]; exact hb1.setCell (Nat.le_refl _) _
  clear hw2 hP1 hb1
  go_wp2_with fail
  refine (zzfmt0x64 _ _ (fresh sb) v false HV.out hG2 (fresh_wid sb).1 (fresh_wid sb).2).mono ?_
  rintro e w3 ⟨rfl, ao3, n3, c3, hG3, hb3⟩
  rw [fmtOut_fresh] at hG3
  have hbw3 : Below w.heap.size w w3 := hb2.trans hb3
  clear hG2 hb2 hb3
  have hne3 : ([] : List UInt8) ++ hexD v ≠ [] := fun h => by have := (hexD_len v).1; rw [List.nil_append] at h; rw [h] at this; simp at this
  have hbuf3 := zzbuf w3 w.heap.size (fresh sb) ao3 n3 c3 _ hG3 (by exact hne3)
  have HBUF3 : Hid (Calls Edmg.prog 11 #[.pointer (some ⟨w.heap.size, 0, none⟩)] w3 fun e w' => e = .returned (.string ⟨(hexD v).toArray⟩) ∧ w3 = w') := hbuf3
  clear hbuf3 hne3
  obtain ⟨sA, hsA, hHex⟩ : ∃ sA : ByteArray, sA = ⟨(hexD v).toArray⟩ ∧ HexStr sA (hexD v) := ⟨_, rfl, hexStr_D v⟩
  rw [← hsA] at HBUF3
  have HSA : Hid (sA = ⟨(hexD v).toArray⟩) := hsA
  clear hsA
  go_wp2_with fail
  refine HBUF3.out.mono ?_
  rintro e w4 ⟨rfl, rfl⟩
  clear HBUF3
  have hmx3 := hG3.pr.mx
  have hlt3 := hG3.pr.lt
  go_wp2_with fail
  refine (newPrinter _ (by have := H2.out; omega) hmx3).mono ?_
  rintro e w5 ⟨rfl, hP5, hb5⟩
  clear hmx3
  go_wp2_with fail
  refine (setSharp _ _ _ _ sb hP5).mono ?_
  rintro e w6 ⟨rfl, hw6⟩
  have hG6 : Got w6 w3.heap.size (fresh sb) none 0 0 [] := by rw [hw6]; exact ⟨hP5.putSh sb, World.ownsRow_nil _ _ _ _, rfl⟩
  have hb6 : Below w3.heap.size w3 w6 := by rw [hw6]; exact hb5.setCell (Nat.le_refl _) _
  clear hw6 hP5 hb5
  go_wp2_with fail
  refine (zzfmt0x64 _ _ (fresh sb) v true HV.out hG6 (fresh_wid sb).1 (fresh_wid sb).2).mono ?_
  rintro e w7 ⟨rfl, ao7, n7, c7, hG7, hb7⟩
  rw [fmtOut_fresh] at hG7
  have hbw7 : Below w3.heap.size w3 w7 := hb6.trans hb7
  clear hG6 hb6 hb7
  have hbuf7 := zzbuf w7 w3.heap.size (fresh sb) ao7 n7 c7 _ hG7 (by simp)
  have e7 : (⟨((if true then [48, 120] else []) ++ hexD v).toArray⟩ : ByteArray) = ⟨#[48, 120]⟩ ++ sA := by
    rw [HSA.out]
    apply ByteArray.ext
    simp [ByteArray.data_append]
  rw [e7] at hbuf7
  have HBUF7 : Hid (Calls Edmg.prog 11 #[.pointer (some ⟨w3.heap.size, 0, none⟩)] w7 fun e w' => e = .returned (.string (⟨#[48, 120]⟩ ++ sA)) ∧ w7 = w') := hbuf7
  clear hbuf7 e7
  go_wp2_with fail
  refine HBUF7.out.mono ?_
  rintro e w8 ⟨rfl, rfl⟩
  clear HBUF7
  have hph := parseHex sA (hexD v) hHex w7
  rw [hexVal_D v HV.out] at hph
  have HPH : Hid (Calls Edmg.prog 15 #[.string sA] w7 fun e w' => e = .returned (.tuple #[.int .u64 v, .bool true]) ∧ w7 = w') := hph
  clear hph
  go_wp2_with fail
  refine HPH.out.mono ?_
  rintro e w8 ⟨rfl, rfl⟩
  clear HPH
  have hs1 : 1 ≤ sA.size := by rw [hHex.size]; exact (hexD_len v).1
  have hs2 : sA.size ≤ 16 := by rw [hHex.size]; exact (hexD_len v).2
  have k1 : w7.cell? ⟨w.heap.size, 7, none⟩ = some (.bool sb) := (hbw7.cell (p := ⟨w.heap.size, 7, none⟩) hlt3).trans hG3.pr.c7
  have k2 : w7.cell? ⟨w3.heap.size, 7, none⟩ = some (.bool sb) := hG7.pr.c7
  have hfin : Below w.heap.size w w7 := hbw3.trans (hbw7.mono (Nat.le_of_lt hlt3))
  have hf := first_ne sA v HV.out hHex
  by_cases hlen : 1 < sA.size
  · have hf0 := hf hlen
    clear hf
    go_wp2_with fail
    refine (getSharp _ _ sb k1).mono ?_
    rintro e w8 ⟨rfl, rfl⟩
    go_wp2_with fail
    refine (getSharp _ _ sb k2).mono ?_
    rintro e w8 ⟨rfl, rfl⟩
    go_wp2_with fail
    go_ret
    exact ⟨rfl, hfin⟩
  · clear hf
    go_wp2_with fail
    refine (getSharp _ _ sb k1).mono ?_
    rintro e w8 ⟨rfl, rfl⟩
    go_wp2_with fail
    refine (getSharp _ _ sb k2).mono ?_
    rintro e w8 ⟨rfl, rfl⟩
    go_wp2_with fail
    go_ret
    exact ⟨rfl, hfin⟩
end Go.Proofs.YoedmwDoor
