/-
  PLAIN LAWS on hexadecimal numerals: lists of bytes and numbers, no Go in sight.
-/
namespace Go.Proofs.YoedmwDoor

/-- The hexadecimal digit of a number below 16. -/
def hexDig (d : Nat) : UInt8 := if d < 10 then UInt8.ofNat (48 + d) else UInt8.ofNat (87 + d)
theorem hexDig_nat (d : Nat) (h : d < 16) : (hexDig d).toNat = if d < 10 then 48 + d else 87 + d := by
  unfold hexDig
  by_cases h1 : d < 10
  · rw [if_pos h1, if_pos h1, UInt8.toNat_ofNat_of_lt' (by show _ < 256; omega)]
  · rw [if_neg h1, if_neg h1, UInt8.toNat_ofNat_of_lt' (by show _ < 256; omega)]
theorem hexDig_low (d : Nat) (h : d < 16) : (hexDig d).toNat < 128 := by
  rw [hexDig_nat d h]; split <;> omega

/-- The hexadecimal numeral of u, at least one digit. 'f' bounds the number of digits. -/
def hexF : Nat → Nat → List UInt8
  | 0, _ => []
  | f + 1, u => if u < 16 then [hexDig u] else hexF f (u / 16) ++ [hexDig (u % 16)]
def hexD (u : Nat) : List UInt8 := hexF 16 u

theorem hexF_small (f u : Nat) (h : u < 16) : hexF (f + 1) u = [hexDig u] := by rw [hexF, if_pos h]
theorem hexF_big (f u : Nat) (h : ¬ u < 16) : hexF (f + 1) u = hexF f (u / 16) ++ [hexDig (u % 16)] := by rw [hexF, if_neg h]
/-- More fuel than digits changes nothing. -/
theorem hexF_more : ∀ (f u : Nat), u < 16 ^ (f + 1) → hexF (f + 2) u = hexF (f + 1) u
  | 0, u, h => by
    have h' : u < 16 := by simpa using h
    rw [hexF_small _ _ h', hexF_small _ _ h']
  | f + 1, u, h => by
    by_cases h1 : u < 16
    · rw [hexF_small _ _ h1, hexF_small _ _ h1]
    · rw [hexF_big _ _ h1, hexF_big _ _ h1, hexF_more f (u / 16) (by rw [Nat.pow_succ] at h; omega)]
theorem hexD_small {u : Nat} (h : u < 16) : hexD u = [hexDig u] := hexF_small 15 u h
theorem hexD_big {u : Nat} (h : ¬ u < 16) (h2 : u < 18446744073709551616) : hexD u = hexD (u / 16) ++ [hexDig (u % 16)] := by
  have e15 : (16 : Nat) ^ (14 + 1) = 1152921504606846976 := by decide
  unfold hexD
  rw [hexF_big 15 u h, hexF_more 14 (u / 16) (by rw [e15]; omega)]

theorem hexF_len : ∀ (f u : Nat), 1 ≤ (hexF (f + 1) u).length ∧ (hexF (f + 1) u).length ≤ f + 1
  | 0, u => by
    by_cases h : u < 16
    · rw [hexF_small _ _ h]; simp
    · rw [hexF_big _ _ h]; simp [hexF]
  | f + 1, u => by
    by_cases h : u < 16
    · rw [hexF_small _ _ h]; simp
    · rw [hexF_big _ _ h]
      have := hexF_len f (u / 16)
      simp; omega
theorem hexD_len (u : Nat) : 1 ≤ (hexD u).length ∧ (hexD u).length ≤ 16 := hexF_len 15 u

theorem hexF_low : ∀ (f u : Nat), ∀ c ∈ hexF f u, ∃ d, d < 16 ∧ c = hexDig d
  | 0, _ => by simp [hexF]
  | f + 1, u => by
    by_cases h : u < 16
    · rw [hexF_small _ _ h]; intro c hc; exact ⟨u, h, List.mem_singleton.1 hc⟩
    · rw [hexF_big _ _ h]; intro c hc
      rcases List.mem_append.1 hc with hc | hc
      · exact hexF_low f _ c hc
      · exact ⟨u % 16, by omega, List.mem_singleton.1 hc⟩
theorem hexD_dig (u : Nat) : ∀ c ∈ hexD u, ∃ d, d < 16 ∧ c = hexDig d := hexF_low 16 u

/-! ### Reading a numeral back -/
/-- The value of a hexadecimal digit. -/
def hv (c : UInt8) : Nat := if c.toNat ≤ 57 then c.toNat - 48 else c.toNat - 87
theorem hv_dig (d : Nat) (h : d < 16) : hv (hexDig d) = d := by
  unfold hv
  rw [hexDig_nat d h]
  by_cases h1 : d < 10
  · rw [if_pos h1, if_pos (by omega)]; omega
  · rw [if_neg h1, if_neg (by omega)]; omega
def hexVal (l : List UInt8) : Nat := l.foldl (fun a c => a * 16 + hv c) 0
theorem hexVal_snoc (l : List UInt8) (c : UInt8) : hexVal (l ++ [c]) = hexVal l * 16 + hv c := by
  unfold hexVal; rw [List.foldl_append]; rfl
theorem hexVal_F : ∀ (f u : Nat), u < 16 ^ (f + 1) → hexVal (hexF (f + 1) u) = u
  | 0, u, h => by
    have h' : u < 16 := by simpa using h
    rw [hexF_small _ _ h']
    have := hexVal_snoc [] (hexDig u)
    rw [List.nil_append, hv_dig u h'] at this
    rw [this]; simp [hexVal]
  | f + 1, u, h => by
    by_cases h1 : u < 16
    · rw [hexF_small _ _ h1]
      have := hexVal_snoc [] (hexDig u)
      rw [List.nil_append, hv_dig u h1] at this
      rw [this]; simp [hexVal]
    · rw [hexF_big _ _ h1, hexVal_snoc, hexVal_F f (u / 16) (by rw [Nat.pow_succ] at h; omega), hv_dig _ (by omega)]
      omega
theorem hexVal_D (u : Nat) (h : u < 18446744073709551616) : hexVal (hexD u) = u := by
  have e16 : (16 : Nat) ^ (15 + 1) = 18446744073709551616 := by decide
  exact hexVal_F 15 u (by rw [e16]; exact h)

/-- Every byte is a hexadecimal digit. -/
def Hex (l : List UInt8) : Prop := ∀ c ∈ l, ∃ d, d < 16 ∧ c = hexDig d
theorem hexVal_lt (l : List UInt8) (h : Hex l) : hexVal l < 16 ^ l.length := by
  induction hn : l.length generalizing l with
  | zero => rw [List.length_eq_zero_iff.1 hn]; simp [hexVal]
  | succ n ih =>
    rcases List.eq_nil_or_concat l with rfl | ⟨m, c, rfl⟩
    · simp at hn
    · rw [List.concat_eq_append] at *
      obtain ⟨d, hd, rfl⟩ := h c (by simp)
      have hm := ih m (fun c hc => h c (by simp [hc])) (by simpa using hn)
      rw [hexVal_snoc, hv_dig d hd, Nat.pow_succ]
      omega
theorem hexVal_take (l : List UInt8) (h : Hex l) (hl : l.length ≤ 16) (k : Nat) (hk : k < l.length) : hexVal (l.take k) ≤ 1152921504606846975 := by
  have h1 := hexVal_lt (l.take k) (fun c hc => h c (List.mem_of_mem_take hc))
  have h2 : (l.take k).length ≤ 15 := by rw [List.length_take]; omega
  have h3 : (16 : Nat) ^ (l.take k).length ≤ 16 ^ 15 := Nat.pow_le_pow_right (by omega) h2
  have e15 : (16 : Nat) ^ 15 = 1152921504606846976 := by decide
  omega
theorem hexVal_step (l : List UInt8) (k : Nat) (hk : k < l.length) : hexVal (l.take (k + 1)) = hexVal (l.take k) * 16 + hv l[k] := by
  rw [List.take_succ_eq_append_getElem hk, hexVal_snoc]
/-- How a digit's byte parts. -/
theorem hex_parts (l : List UInt8) (h : Hex l) (k : Nat) (hk : k < l.length) :
    (48 ≤ (l[k].toNat : Int) ∧ (l[k].toNat : Int) ≤ 57 ∧ (hv l[k] : Int) = (l[k].toNat : Int) - 48) ∨ (97 ≤ (l[k].toNat : Int) ∧ (l[k].toNat : Int) ≤ 102 ∧ (hv l[k] : Int) = (l[k].toNat : Int) - 97 + 10) := by
  obtain ⟨d, hd, e⟩ := h l[k] (List.getElem_mem hk)
  rw [e, hv_dig d hd, hexDig_nat d hd]
  by_cases h1 : d < 10
  · rw [if_pos h1]; left; omega
  · rw [if_neg h1]; right; omega
theorem or_low (x d : Nat) (hd : d < 16) : (x * 16) ||| d = x * 16 + d := by
  have := Nat.two_pow_add_eq_or_of_lt (i := 4) (b := d) (by simpa using hd) x
  rw [show (2 : Nat) ^ 4 = 16 from rfl, Nat.mul_comm 16 x] at this
  exact this.symm

/-! ### A numeral laid from the left, leading noughts skipped -/
/-- The number that the first k of 16 digits of v spell. -/
def top (v k : Nat) : Nat := v / 16 ^ (16 - k)
/-- Its digits; none while it is 0. -/
def tops (v k : Nat) : List UInt8 := if top v k = 0 then [] else hexD (top v k)
theorem top_zero (v : Nat) (h : v < 18446744073709551616) : top v 0 = 0 := by
  have e16 : (16 : Nat) ^ (16 - 0) = 18446744073709551616 := by decide
  unfold top; rw [e16]; omega
theorem top_all (v : Nat) : top v 16 = v := by simp [top]
theorem top_step (v k : Nat) (hk : k < 16) : top v k = top v (k + 1) / 16 := by
  unfold top
  rw [Nat.div_div_eq_div_mul, show 16 - k = (16 - (k + 1)) + 1 by omega, Nat.pow_succ]
theorem top_lt (v k : Nat) (h : v < 18446744073709551616) : top v k < 18446744073709551616 := Nat.lt_of_le_of_lt (Nat.div_le_self _ _) h
theorem tops_skip (v k : Nat) (hk : k < 16) (h0 : top v k = 0) (hd : top v (k + 1) % 16 = 0) : top v (k + 1) = 0 ∧ tops v (k + 1) = tops v k := by
  have e := top_step v k hk
  have : top v (k + 1) = 0 := by omega
  refine ⟨this, ?_⟩
  unfold tops
  rw [this, h0]
theorem tops_put (v k : Nat) (hv : v < 18446744073709551616) (hk : k < 16) (h : top v k ≠ 0 ∨ top v (k + 1) % 16 ≠ 0) : top v (k + 1) ≠ 0 ∧ tops v (k + 1) = tops v k ++ [hexDig (top v (k + 1) % 16)] := by
  have e := top_step v k hk
  have hne : top v (k + 1) ≠ 0 := by omega
  refine ⟨hne, ?_⟩
  unfold tops
  rw [if_neg hne]
  by_cases h0 : top v k = 0
  · rw [if_pos h0]
    have hlt : top v (k + 1) < 16 := by omega
    rw [hexD_small hlt, Nat.mod_eq_of_lt hlt]; rfl
  · rw [if_neg h0, hexD_big (by omega) (top_lt v (k + 1) hv), ← e]
theorem tops_len (v k : Nat) : (tops v k).length ≤ 16 := by
  unfold tops
  split
  · simp
  · exact (hexD_len _).2
theorem pow_16 (k : Nat) (hk : k < 16) : (2 : Nat) ^ (60 - 4 * k) = 16 ^ (16 - (k + 1)) := by
  rw [show (16 : Nat) = 2 ^ 4 from rfl, ← Nat.pow_mul]
  congr 1; omega

end Go.Proofs.YoedmwDoor
