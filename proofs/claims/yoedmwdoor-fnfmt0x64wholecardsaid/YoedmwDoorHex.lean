/-
  THE WALKS of zzHex and zzRepeat.
-/
import Derived.Test.YoedmwDoorFmt
import Derived.WalkLawsBesides
namespace Go.Proofs.YoedmwDoor
open Go.RowKit

theorem hex_zero (w : World) : Calls Edmg.prog 12 #[.int .u64 0] w fun e w' => e = .returned (.string ⟨(hexD 0).toArray⟩) ∧ Below w.heap.size w w' := by
  go_enter Edmg.func12, Edmg.ntmps12
  go_wp2
  go_ret
  exact ⟨rfl, Below.refl _ _⟩

/-- "0123456789abcdef" -/
def hdig : ByteArray := ⟨#[48, 49, 50, 51, 52, 53, 54, 55, 56, 57, 97, 98, 99, 100, 101, 102]⟩
theorem idx_hdig (d : Nat) (hd : d < 16) (k : IntKind) (W : World) : (Instr.index 9 (.string ⟨#[48, 49, 50, 51, 52, 53, 54, 55, 56, 57, 97, 98, 99, 100, 101, 102]⟩) (.int k (d : Int))).run Edmg.prog W = .ok (.int .u8 ((hexDig d).toNat : Int)) W := by
  show (Instr.index 9 (.string hdig) (.int k (d : Int))).run Edmg.prog W = _
  have key : ∀ d : Fin 16, hdig.data.toList[d.val]? = some (hexDig d.val) := by decide
  have hk := key ⟨d, hd⟩
  have hsz : hdig.size = 16 := rfl
  rw [run_index_string W 9 hdig k d Edmg.underlying9, dif_pos ⟨by omega, by rw [hsz]; omega⟩]
  have e : (hdig[((d : Int)).toNat]'(by rw [hsz]; omega)) = hexDig d := by
    have h1 : hdig.data.toList[d]? = some (hdig[((d : Int)).toNat]'(by rw [hsz]; omega)) := List.getElem?_eq_getElem (show d < hdig.data.toList.length by show d < 16; omega)
    rw [h1] at hk
    exact Option.some.inj hk
  rw [e]

/-- Has a digit been laid? -/
def stB (v k : Nat) : Bool := decide (top v k ≠ 0)
theorem digit_at (v k : Nat) (hv : v < 18446744073709551616) (hk : k < 16) : bits .and .u64 ((v : Int) / 2 ^ (60 - 4 * k)) 15 = ((top v (k + 1) % 16 : Nat) : Int) := by
  have e : (v : Int) / 2 ^ (60 - 4 * k) = ((top v (k + 1) : Nat) : Int) := by
    unfold top
    rw [← pow_16 k hk]
    rw [Int.natCast_ediv, Int.natCast_pow]
    rfl
  rw [e]
  have := u64_and_nat (top v (k + 1)) 15 (top_lt v (k + 1) hv) (by omega)
  rw [nat_mask4] at this
  exact this

theorem own_shape {w : World} {base : Nat} {b : Value} {n : Nat} {xs : List Value} (h : w.ownsRow base 5 1 b n xs) (h0 : 0 < n) : ∃ g c, b = .slice (some ⟨g, 0, none⟩) n c := by
  rcases h.2 with ⟨_, e⟩ | ⟨g, cap, cur, hv, _⟩
  · omega
  · exact ⟨g, cap, hv⟩

set_option maxRecDepth 100000 in
set_option maxHeartbeats 800000 in
theorem hex_pos (w : World) (v : Nat) (hv : v < 18446744073709551616) (h0 : v ≠ 0) :
    Calls Edmg.prog 12 #[.int .u64 v] w fun e w' => e = .returned (.string ⟨(hexD v).toArray⟩) ∧ Below w.heap.size w w' := by
  have HV : Hid (v < 18446744073709551616) := hv
  have hd0 : ((v : Int) == 0) = false := by rw [beq_eq_false_iff_ne]; omega
  obtain ⟨i0, hi, hz0, hz1, hz2⟩ := info_parts Edmg.info5
  have H0 : Hid (v ≠ 0) := h0
  clear hv h0
  go_enter Edmg.func12, Edmg.ntmps12
  go_wp2
  go_loopw [3, 4, 5, 6] (fun b t s _ wr => ∃ k : Nat, k ≤ 16 ∧ s = .int .i64 (60 - 4 * (k : Int)) ∧ t = .bool (stB v k) ∧ wr.ownsRow w.heap.size 5 1 b (tops v k).length (vals (tops v k)) ∧ Below w.heap.size w wr) (fun _ _ s _ _ => (intOf s + 4).toNat)
  case atStart => exact ⟨0, by omega, rfl, by unfold stB; rw [top_zero v HV.out]; rfl, by unfold tops; rw [top_zero v HV.out]; exact World.ownsRow_nil _ _ _ _, Below.refl _ _⟩
  case round =>
    obtain ⟨k, hk, rfl, rfl, hown, hbel⟩ := hrel
    by_cases hlt : k < 16
    · have hdg := digit_at v k HV.out hlt
      obtain ⟨d, hd, hd16⟩ : ∃ d : Nat, d = top v (k + 1) % 16 ∧ d < 16 := ⟨_, rfl, by omega⟩
      rw [← hd] at hdg
      have HD : Hid (d = top v (k + 1) % 16) := hd
      clear hd
      have HO : Hid (wr.ownsRow w.heap.size 5 1 u3 (tops v k).length (vals (tops v k))) := hown
      have HB : Hid (Below w.heap.size w wr) := hbel
      clear hown hbel
      by_cases hskip : stB v k = false ∧ d = 0
      · obtain ⟨hst, rfl⟩ := hskip
        have ht0 : top v k = 0 := by unfold stB at hst; simpa using hst
        obtain ⟨e1, e2⟩ := tops_skip v k hlt ht0 HD.out.symm
        have HT : Hid (stB v (k + 1) = stB v k ∧ tops v (k + 1) = tops v k) := ⟨by unfold stB; rw [e1, ht0], e2⟩
        clear ht0 e1 e2
        go_wp2_with fail
        go_roundw
        case rel => exact ⟨k + 1, hlt, by go_num, by rw [HT.out.1], by rw [HT.out.2]; exact HO.out, HB.out⟩
        case measure => simp [intOf]; omega
      · have hor : top v k ≠ 0 ∨ d ≠ 0 := by
          cases hs : stB v k
          · exact Or.inr fun h => hskip ⟨hs, h⟩
          · unfold stB at hs
            exact Or.inl (by simpa using hs)
        obtain ⟨e1, e2⟩ := tops_put v k HV.out hlt (by rw [← HD.out]; exact hor)
        rw [← HD.out] at e2
        have HT : Hid (stB v (k + 1) = true ∧ tops v (k + 1) = tops v k ++ [hexDig d]) := ⟨by unfold stB; simpa using e1, e2⟩
        have hix := idx_hdig d hd16 .u64
        have hbs := HB.out.size
        have hl16 := tops_len v k
        have hguard : ((d : Int) != 0) = true ∨ (((d : Int) != 0) = false ∧ stB v k = true) := by
          by_cases hd00 : d = 0
          · right
            refine ⟨by rw [hd00]; rfl, ?_⟩
            cases hs : stB v k
            · exact absurd ⟨hs, hd00⟩ hskip
            · rfl
          · left; simp; omega
        clear hor e1 e2 hskip
        rcases hguard with hg | ⟨hg, hs⟩
        all_goals
          go_wp2_with (first | (at_builtin; refine wpList_append_own_at _ (by rfl) (.tmp 23) (.tmp 26) 36 (by rfl) w.heap.size 5 i0 (.int .u8 0) 1 1 Edmg.underlying36 hi hz0 hz1 hz2 rfl (by decide) u3 (tops v k).length (vals (tops v k)) (by rfl) (HO.out.alloc _) ⟨wr.heap.size, 0, none⟩ 1 1 [.int .u8 ((hexDig d).toNat : Int)] (by rfl) (by rfl) (cell_one_new _ _ _) (by simp [Value.oneCell']) (by unfold maxLen; omega) (by omega) (by rw [World.size_alloc]; omega) ?_; intro v' w1 hown1 hgrow hnil hat))
          go_roundw
          case rel =>
            refine ⟨k + 1, hlt, by go_num, by rw [HT.out.1], ?_, ((HB.out.alloc hbs _).grown hgrow (by rw [World.size_alloc]; omega) (fun r hr => (HO.out.lt r hr).1))⟩
            rw [HT.out.2, List.length_append, vals_append]
            exact hown1
          case measure => simp [intOf]; omega
    · obtain rfl : k = 16 := by omega
      have et : tops v 16 = hexD v := by unfold tops; rw [top_all, if_neg H0.out]
      rw [et] at hown
      obtain ⟨g, c, hu3⟩ := own_shape hown (hexD_len v).1
      have hcv : (convert 36 9 u3).run Edmg.prog wr = .ok (.string ⟨(hexD v).toArray⟩) wr := by
        rw [hu3] at hown ⊢
        exact run_convert_bytes_back (P := Edmg.prog) wr 36 9 5 ⟨g, 0, none⟩ c (hexD v) Edmg.underlying36 Edmg.underlying5 Edmg.underlying9 (fun j hj => by
          rw [show (⟨g, 0, none⟩ : Addr).add j = ⟨g, 0 + j, none⟩ from Addr.add_mid _ _ _, Nat.zero_add, hown.cellAt j (by omega), vals_get _ j hj])
      have HB : Hid (Below w.heap.size w wr) := hbel
      clear hu3 hown et hbel
      go_wp2_with fail
      go_ret
      exact ⟨rfl, HB.out⟩

theorem zzHex (w : World) (v : Nat) (hv : v < 18446744073709551616) :
    Calls Edmg.prog 12 #[.int .u64 v] w fun e w' => e = .returned (.string ⟨(hexD v).toArray⟩) ∧ Below w.heap.size w w' := by
  by_cases h0 : v = 0
  · subst h0; exact hex_zero w
  · exact hex_pos w v hv h0

/-- The first i of n cells hold the byte c. -/
structure Filled (C : Array Value) (n i : Nat) (c : UInt8) : Prop where
  size : C.size = n
  get : ∀ j, j < i → C[j]? = some (.int .u8 (c.toNat : Int))
theorem Filled.put {C : Array Value} {n i : Nat} {c : UInt8} (h : Filled C n i c) (hi : i < n) : Filled (C.setIfInBounds i (.int .u8 (c.toNat : Int))) n (i + 1) c where
  size := by simp [h.size]
  get := fun j hj => by
    have hs := h.size
    by_cases e : j = i
    · subst e; rw [Array.getElem?_setIfInBounds_self_of_lt (by omega)]
    · rw [Array.getElem?_setIfInBounds_ne (by omega)]; exact h.get j (by omega)

set_option maxHeartbeats 400000 in
theorem zzRepeat (w : World) (c : UInt8) (n : Nat) (h1 : 1 ≤ n) (h2 : n ≤ 65536) :
    Calls Edmg.prog 13 #[.int .u8 (c.toNat : Int), .int .i64 n] w fun e w' => e = .returned (.string ⟨(List.replicate n c).toArray⟩) ∧ Below w.heap.size w w' := by
  have hd1 : decide ((n : Int) ≤ 0) = false := by rw [decide_eq_false_iff_not]; omega
  have hd2 : decide ((65536 : Int) < (n : Int)) = false := by rw [decide_eq_false_iff_not]; omega
  have hd3 : decide (n = 0) = false := by rw [decide_eq_false_iff_not]; omega
  have hmk := run_make_bytes 36 Edmg.underlying36 w n (n : Int) rfl (by omega)
  generalize hcc : (c.toNat : Int) = cc
  have HC : Hid (cc = (c.toNat : Int)) := hcc.symm
  clear hcc
  go_enter Edmg.func13, Edmg.ntmps13
  go_wp2
  go_loopw [6] (fun x wr => ∃ (i : Nat) (C : Array Value), i ≤ n ∧ x = .int .i64 i ∧ wr = w.alloc (.cells C 5) ∧ Filled C n i c) (fun x _ => n - (intOf x).toNat)
  case atStart => exact ⟨0, zs n, Nat.zero_le _, rfl, rfl, ⟨zs_size n, fun j hj => absurd hj (by omega)⟩⟩
  case round =>
    obtain ⟨i, C, hi, rfl, rfl, hF⟩ := hrel
    by_cases hlt : i < n
    · have hsz : C.size = n := hF.size
      obtain ⟨z, hz⟩ : ∃ z, C[i]? = some z := ⟨C[i]'(by omega), Array.getElem?_eq_getElem (by omega)⟩
      clear hsz
      go_wp2
      go_roundw
      case rel => exact ⟨i + 1, _, hlt, by go_num, rfl, by rw [HC.out]; exact hF.put hlt⟩
      case measure => simp [intOf]; omega
    · obtain rfl : n = i := by omega
      have hcv : (convert 36 9 (.slice (some ⟨w.heap.size, 0, none⟩) n n)).run Edmg.prog (w.alloc (.cells C 5)) = .ok (.string ⟨(List.replicate n c).toArray⟩) (w.alloc (.cells C 5)) := by
        have h := run_convert_bytes_back (P := Edmg.prog) (w.alloc (.cells C 5)) 36 9 5 ⟨w.heap.size, 0, none⟩ n (List.replicate n c) Edmg.underlying36 Edmg.underlying5 Edmg.underlying9 (fun j hj => by
          rw [show (⟨w.heap.size, 0, none⟩ : Addr).add j = ⟨w.heap.size, 0 + j, none⟩ from Addr.add_mid _ _ _, Nat.zero_add, World.cell?_alloc_at _ _ _ _ rfl, hF.get j (by simpa using hj)]
          simp)
        rw [List.length_replicate] at h
        exact h
      go_wp2
      go_ret
      exact ⟨rfl, (Below.refl _ _).alloc (Nat.le_refl _) _⟩
end Go.Proofs.YoedmwDoor
