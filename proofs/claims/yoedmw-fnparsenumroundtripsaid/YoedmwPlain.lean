/-
  PLAIN LAWS for 'parsenum' and 'zzItoa': lists of bytes and numbers, no Go in sight.
-/
import Derived.Lib.ItoaNum
import GoSem.Op.String
namespace Go.Proofs.Yoedmw.Plain
open Go

/-- Is the byte a decimal digit? -/
def dig (c : UInt8) : Bool := decide (48 ≤ c.toNat ∧ c.toNat ≤ 57)

/-- The number that a list of digits spells. -/
def val (l : List UInt8) : Nat := l.foldl (fun a c => a * 10 + (c.toNat - 48)) 0

theorem val_nil : val [] = 0 := rfl
theorem val_snoc (l : List UInt8) (c : UInt8) : val (l ++ [c]) = val l * 10 + (c.toNat - 48) := by
  unfold val; rw [List.foldl_append]; rfl

theorem fold_from (l : List UInt8) (a : Nat) : l.foldl (fun a c => a * 10 + (c.toNat - 48)) a = a * 10 ^ l.length + val l := by
  induction l generalizing a with
  | nil => simp [val]
  | cons c l ih =>
    unfold val
    simp only [List.foldl_cons, List.length_cons]
    rw [ih, ih (0 * 10 + (c.toNat - 48)), Nat.pow_succ, Nat.add_mul, Nat.zero_mul, Nat.zero_add]
    have : a * 10 * 10 ^ l.length = a * (10 ^ l.length * 10) := by rw [Nat.mul_assoc, Nat.mul_comm 10]
    omega

theorem val_append (l m : List UInt8) : val (l ++ m) = val l * 10 ^ m.length + val m := by
  show List.foldl _ 0 (l ++ m) = _
  rw [List.foldl_append, fold_from]; rfl

theorem val_cons (c : UInt8) (l : List UInt8) : val (c :: l) = (c.toNat - 48) * 10 ^ l.length + val l := by
  show List.foldl _ _ l = _
  rw [fold_from]; simp

theorem val_lt (l : List UInt8) (h : ∀ c ∈ l, dig c = true) : val l < 10 ^ l.length := by
  induction l with
  | nil => simp [val]
  | cons c l ih =>
    rw [val_cons, List.length_cons, Nat.pow_succ]
    have h1 := ih fun c hc => h c (List.mem_cons_of_mem _ hc)
    have h2 := h c (List.mem_cons_self ..)
    simp only [dig, decide_eq_true_eq] at h2
    have h3 : (c.toNat - 48) * 10 ^ l.length ≤ 9 * 10 ^ l.length := Nat.mul_le_mul_right _ (by omega)
    omega

/-- The value of a front part is at most that of the whole. -/
theorem val_front (l m : List UInt8) : val l ≤ val (l ++ m) := by
  rw [val_append]
  have : val l * 1 ≤ val l * 10 ^ m.length := Nat.mul_le_mul_left _ (Nat.one_le_pow _ _ (by omega))
  omega

theorem val_take_le (l : List UInt8) (k : Nat) (h : k < l.length) : val (l.take k) ≤ val l.dropLast := by
  have e : l.dropLast = l.take k ++ l.dropLast.drop k := by
    rw [List.dropLast_eq_take, List.drop_take]
    have := List.take_append_drop k (l.take (l.length - 1))
    rw [List.take_take, Nat.min_eq_left (by omega), List.drop_take] at this
    exact this.symm
  rw [e]; exact val_front _ _

theorem take_snoc (l : List UInt8) (k : Nat) (h : k < l.length) : l.take (k + 1) = l.take k ++ [l[k]] :=
  List.take_succ_eq_append_getElem h

theorem val_dropLast (l : List UInt8) (h : ∀ c ∈ l, dig c = true) : val l ≤ val l.dropLast * 10 + 9 := by
  rcases List.eq_nil_or_concat l with rfl | ⟨m, c, rfl⟩
  · simp [val]
  · rw [List.concat_eq_append] at *
    have h2 := h c (by simp)
    simp only [dig, decide_eq_true_eq] at h2
    rw [val_snoc, List.dropLast_concat]; omega

/-! ### The numeral of a list without leading noughts -/

theorem decDigits_val (l : List UInt8) (h : ∀ c ∈ l, dig c = true) (h0 : l ≠ []) (hz : l.length = 1 ∨ l.head? ≠ some 48) : Lib.decDigits (val l) = l := by
  induction hn : l.length generalizing l with
  | zero => exact absurd (List.length_eq_zero_iff.1 hn) h0
  | succ n ih =>
    rcases List.eq_nil_or_concat l with rfl | ⟨m, c, rfl⟩
    · exact absurd rfl h0
    · rw [List.concat_eq_append] at *
      have h2 := h c (by simp)
      simp only [dig, decide_eq_true_eq] at h2
      have hm : ∀ c ∈ m, dig c = true := fun c hc => h c (by simp [hc])
      have hlen : m.length = n := by simpa using hn
      have ec : UInt8.ofNat (48 + (c.toNat - 48)) = c := by
        rw [show 48 + (c.toNat - 48) = c.toNat by omega]; exact UInt8.ofNat_toNat
      by_cases hm0 : m = []
      · subst hm0
        rw [List.nil_append, val_cons]
        simp only [List.length_nil, Nat.pow_zero, Nat.mul_one, val_nil, Nat.add_zero]
        rw [Lib.decDigits, dif_pos (by omega), ec]
      · have hlp : 1 ≤ m.length := by
          rcases m with _ | ⟨a, m⟩
          · exact absurd rfl hm0
          · simp
        have hz' : (m ++ [c]).head? ≠ some 48 := by
          rcases hz with h | h
          · simp at h; exact absurd h hm0
          · exact h
        have hz2 : m.head? ≠ some 48 := by
          rcases m with _ | ⟨a, m⟩
          · exact absurd rfl hm0
          · simpa using hz'
        have hv : 1 ≤ val m := by
          rcases m with _ | ⟨a, m⟩
          · exact absurd rfl hm0
          · have ha := hm a (List.mem_cons_self ..)
            simp only [dig, decide_eq_true_eq] at ha
            have hne : a.toNat ≠ 48 := fun e => hz2 (by
              have : a = 48 := by apply UInt8.toNat_inj.1; rw [e]; rfl
              simp [this])
            rw [val_cons]
            have : 1 * 1 ≤ (a.toNat - 48) * 10 ^ m.length := Nat.mul_le_mul (by omega) (Nat.one_le_pow _ _ (by omega))
            omega
        rw [val_snoc, Lib.decDigits, dif_neg (by omega), show (val m * 10 + (c.toNat - 48)) / 10 = val m by omega,
          show (val m * 10 + (c.toNat - 48)) % 10 = c.toNat - 48 by omega, ec, ih m hm hm0 (Or.inr hz2) hlen]

theorem dec_digits (n : Nat) : ∀ c ∈ Lib.decDigits n, dig c = true := by
  induction n using Nat.strongRecOn with
  | _ n ih =>
    rw [Lib.decDigits]
    have key : ∀ x : Nat, x < 10 → dig (UInt8.ofNat (48 + x)) = true := by
      intro x hx
      unfold dig
      rw [UInt8.toNat_ofNat_of_lt' (by show _ < 256; omega)]
      simp; omega
    by_cases h : n < 10
    · rw [dif_pos h]; intro c hc; rw [List.mem_singleton.1 hc]; exact key n h
    · rw [dif_neg h]; intro c hc
      rcases List.mem_append.1 hc with hc | hc
      · exact ih (n / 10) (by omega) c hc
      · rw [List.mem_singleton.1 hc]; exact key _ (by omega)

theorem val_dec (n : Nat) : val (Lib.decDigits n) = n := by
  induction n using Nat.strongRecOn with
  | _ n ih =>
    rw [Lib.decDigits]
    by_cases h : n < 10
    · rw [dif_pos h, val_cons]
      rw [UInt8.toNat_ofNat_of_lt' (by show _ < 256; omega)]
      simp [val]
    · rw [dif_neg h, val_snoc, ih _ (by omega), UInt8.toNat_ofNat_of_lt' (by show _ < 256; omega)]
      omega

theorem val_dec_dropLast (n : Nat) : val (Lib.decDigits n).dropLast = n / 10 := by
  by_cases h : n < 10
  · rw [Lib.decDigits, dif_pos h]; simp [val]; omega
  · rw [Lib.decDigits, dif_neg h, List.dropLast_concat, val_dec]

theorem dec_ne_nil (n : Nat) : Lib.decDigits n ≠ [] := by
  rw [Lib.decDigits]; split <;> simp

theorem dec_length_le (n : Nat) (h : n < 10000000000000000000) : (Lib.decDigits n).length ≤ 19 ∧ 1 ≤ (Lib.decDigits n).length := by
  have key : ∀ k n : Nat, 1 ≤ k → n < 10 ^ k → (Lib.decDigits n).length ≤ k := by
    intro k
    induction k with
    | zero => intro n h; omega
    | succ k ih =>
      intro n _ hn
      rw [Lib.decDigits]
      by_cases h : n < 10
      · rw [dif_pos h]; simp
      · rw [dif_neg h]
        rw [Nat.pow_succ] at hn
        have hk : 1 ≤ k := by
          rcases k with _ | k
          · simp at hn; omega
          · omega
        have := ih (n / 10) hk (by omega)
        simp; exact this
  refine ⟨key 19 n (by omega) (by simpa using h), ?_⟩
  have := dec_ne_nil n
  rcases h : Lib.decDigits n with _ | ⟨a, l⟩
  · exact absurd h this
  · simp

theorem dec_len_pos (n : Nat) : 1 ≤ (Lib.decDigits n).length := by
  rcases h : Lib.decDigits n with _ | ⟨a, l⟩
  · exact absurd h (dec_ne_nil n)
  · simp

/-! ### What zzItoa's loop leaves: the digits of n, none for 0 -/
def dec0 (n : Nat) : List UInt8 := if n = 0 then [] else Lib.decDigits n
theorem dec0_zero : dec0 0 = [] := rfl
theorem dec0_pos {n : Nat} (h : 0 < n) : dec0 n = Lib.decDigits n := by unfold dec0; rw [if_neg (by omega)]
theorem dec0_step {n : Nat} (h : 0 < n) : dec0 n = dec0 (n / 10) ++ [UInt8.ofNat (48 + n % 10)] := by
  rw [dec0_pos h, Lib.decDigits]
  by_cases h2 : n < 10
  · rw [dif_pos h2, show n / 10 = 0 by omega, dec0_zero, show n % 10 = n by omega]; rfl
  · rw [dif_neg h2, dec0_pos (by omega)]

/-! ### The comparison of equally long digit strings -/
theorem less_val : ∀ (l m : List UInt8), (∀ c ∈ l, dig c = true) → (∀ c ∈ m, dig c = true) → l.length = m.length → (Op.bytesLess l m = true ↔ val l < val m)
  | [], [], _, _, _ => by simp [Op.bytesLess, val]
  | a :: l, b :: m, hl, hm, hlen => by
    have ha := hl a (List.mem_cons_self ..)
    have hb := hm b (List.mem_cons_self ..)
    simp only [dig, decide_eq_true_eq] at ha hb
    have hlen' : l.length = m.length := by simpa using hlen
    have ih := less_val l m (fun c hc => hl c (List.mem_cons_of_mem _ hc)) (fun c hc => hm c (List.mem_cons_of_mem _ hc)) hlen'
    have vl := val_lt l (fun c hc => hl c (List.mem_cons_of_mem _ hc))
    have vm := val_lt m (fun c hc => hm c (List.mem_cons_of_mem _ hc))
    rw [val_cons, val_cons]
    simp only [Op.bytesLess, Bool.or_eq_true, Bool.and_eq_true, decide_eq_true_eq, beq_iff_eq, ih]
    rw [hlen'] at vl ⊢
    rw [UInt8.lt_iff_toNat_lt]
    rcases Nat.lt_trichotomy a.toNat b.toNat with h | h | h
    · have : (a.toNat - 48 + 1) * 10 ^ m.length ≤ (b.toNat - 48) * 10 ^ m.length := Nat.mul_le_mul_right _ (by omega)
      rw [Nat.add_mul] at this
      constructor
      · intro _; omega
      · intro _; exact Or.inl h
    · have e : a = b := UInt8.toNat_inj.1 h
      subst e
      constructor
      · rintro (h | ⟨_, h⟩) <;> omega
      · intro h; exact Or.inr ⟨rfl, by omega⟩
    · have : (b.toNat - 48 + 1) * 10 ^ m.length ≤ (a.toNat - 48) * 10 ^ m.length := Nat.mul_le_mul_right _ (by omega)
      rw [Nat.add_mul] at this
      constructor
      · rintro (h | ⟨rfl, _⟩) <;> omega
      · intro h; omega

/-- "1000000" -/
def million : List UInt8 := [49, 48, 48, 48, 48, 48, 48]
theorem val_million : val million = 1000000 := by decide

theorem val_inj_len (l m : List UInt8) (hl : ∀ c ∈ l, dig c = true) (hm : ∀ c ∈ m, dig c = true) (hlen : l.length = m.length) (h : val l = val m) : l = m := by
  induction l generalizing m with
  | nil => simp at hlen; exact (List.length_eq_zero_iff.1 hlen.symm).symm
  | cons a l ih =>
    rcases m with _ | ⟨b, m⟩
    · simp at hlen
    · have ha := hl a (List.mem_cons_self ..)
      have hb := hm b (List.mem_cons_self ..)
      simp only [dig, decide_eq_true_eq] at ha hb
      have hlen' : l.length = m.length := by simpa using hlen
      have vl := val_lt l (fun c hc => hl c (List.mem_cons_of_mem _ hc))
      have vm := val_lt m (fun c hc => hm c (List.mem_cons_of_mem _ hc))
      rw [val_cons, val_cons, hlen'] at h
      rw [hlen'] at vl
      have e : a.toNat = b.toNat := by
        rcases Nat.lt_trichotomy a.toNat b.toNat with h1 | h1 | h1
        · have : (a.toNat - 48 + 1) * 10 ^ m.length ≤ (b.toNat - 48) * 10 ^ m.length := Nat.mul_le_mul_right _ (by omega)
          rw [Nat.add_mul] at this; omega
        · exact h1
        · have : (b.toNat - 48 + 1) * 10 ^ m.length ≤ (a.toNat - 48) * 10 ^ m.length := Nat.mul_le_mul_right _ (by omega)
          rw [Nat.add_mul] at this; omega
      rw [UInt8.toNat_inj.1 e, ih m (fun c hc => hl c (List.mem_cons_of_mem _ hc)) (fun c hc => hm c (List.mem_cons_of_mem _ hc)) hlen' (by rw [e] at h; omega)]

/-- 'x > "1000000"' of seven digits. -/
theorem over_million (l : List UInt8) (hl : ∀ c ∈ l, dig c = true) (hlen : l.length = 7) :
    (!(Op.bytesLess l million || l == million)) = decide (1000000 < val l) := by
  have hm : ∀ c ∈ million, dig c = true := by decide
  have h1 := less_val l million hl hm (by rw [hlen]; rfl)
  rw [val_million] at h1
  have h2 : l = million ↔ val l = 1000000 := ⟨fun h => by rw [h, val_million], fun h => val_inj_len l million hl hm (by rw [hlen]; rfl) (by rw [h, val_million])⟩
  cases hb : Op.bytesLess l million with
  | true =>
    have := h1.1 hb
    simp; omega
  | false =>
    have h3 : ¬ val l < 1000000 := fun h => by rw [h1.2 h] at hb; cases hb
    by_cases h4 : l = million
    · have := h2.1 h4
      simp [h4, val_million]
    · have h5 : val l ≠ 1000000 := fun h => h4 (h2.2 h)
      have h6 : (l == million) = false := beq_eq_false_iff_ne.2 h4
      simp [h6]; omega

/-! ### Leading noughts -/
theorem tw_len {p : UInt8 → Bool} (l : List UInt8) : (l.takeWhile p).length ≤ l.length := by
  have e : l = l.takeWhile p ++ l.dropWhile p := (List.takeWhile_append_dropWhile ..).symm
  have := congrArg List.length e
  rw [List.length_append] at this; omega
theorem tw_all {p : UInt8 → Bool} (l : List UInt8) : ∀ c ∈ l.takeWhile p, p c = true := by
  induction l with
  | nil => simp
  | cons a l ih =>
    by_cases ha : p a = true
    · rw [List.takeWhile_cons_of_pos ha]
      intro c hc
      rcases List.mem_cons.1 hc with rfl | hc
      · exact ha
      · exact ih c hc
    · rw [List.takeWhile_cons_of_neg ha]; simp
def zs (l : List UInt8) : Nat := (l.takeWhile fun c => c == 48).length

theorem zs_le (l : List UInt8) : zs l ≤ l.length := tw_len _

theorem zs_get (l : List UInt8) (k : Nat) (h : k < zs l) (hk : k < l.length) : l[k] = 48 := by
  induction l generalizing k with
  | nil => simp at hk
  | cons a l ih =>
    by_cases ha : a = 48
    · cases k with
      | zero => simpa using ha
      | succ k =>
        have : k < zs l := by simp [zs, ha] at h; simpa [zs] using h
        simpa using ih k this (by simpa using hk)
    · exfalso; simp [zs, ha] at h

theorem zs_stop (l : List UInt8) (h : zs l < l.length) : l[zs l] ≠ 48 := by
  induction l with
  | nil => simp at h
  | cons a l ih =>
    by_cases ha : a = 48
    · have e : zs (a :: l) = zs l + 1 := by simp [zs, ha]
      rw [e] at h
      have := ih (by simpa using h)
      simp only [e, List.getElem_cons_succ]; exact this
    · have e : zs (a :: l) = 0 := by simp [zs, ha]
      simp only [e, List.getElem_cons_zero]; exact ha

theorem val_drop_zs (l : List UInt8) : val (l.drop (zs l)) = val l := by
  induction l with
  | nil => rfl
  | cons a l ih =>
    by_cases ha : a = 48
    · have e : zs (a :: l) = zs l + 1 := by simp [zs, ha]
      rw [e, List.drop_succ_cons, ih, val_cons, ha]; simp
    · have e : zs (a :: l) = 0 := by simp [zs, ha]
      rw [e, List.drop_zero]

/-- The law's own test for 'too large', over the run without its last digit. -/
def tooBig (p : List UInt8) : Bool :=
  if 7 < p.length - zs p then true else if p.length - zs p = 7 then !(Op.bytesLess (p.drop (zs p)) million || p.drop (zs p) == million) else false

theorem tooBig_eq (p : List UInt8) (h : ∀ c ∈ p, dig c = true) : tooBig p = decide (1000000 < val p) := by
  have hd : ∀ c ∈ p.drop (zs p), dig c = true := fun c hc => h c (List.mem_of_mem_drop hc)
  have hl : (p.drop (zs p)).length = p.length - zs p := List.length_drop
  have hz := zs_le p
  unfold tooBig
  split
  · rename_i h7
    have hs := zs_stop p (by omega)
    have ed : p.drop (zs p) = p[zs p]'(by omega) :: p.drop (zs p + 1) := List.drop_eq_getElem_cons (by omega)
    have hc := h (p[zs p]'(by omega)) (List.getElem_mem _)
    simp only [dig, decide_eq_true_eq] at hc
    have hne : (p[zs p]'(by omega)).toNat ≠ 48 := fun e => hs (UInt8.toNat_inj.1 e)
    have hv : val (p.drop (zs p)) = val p := val_drop_zs p
    rw [ed, val_cons] at hv
    have hlen : 7 ≤ (p.drop (zs p + 1)).length := by rw [List.length_drop]; omega
    have hpow : 10 ^ 7 ≤ 10 ^ (p.drop (zs p + 1)).length := Nat.pow_le_pow_right (by omega) hlen
    have : 1 * 10 ^ 7 ≤ ((p[zs p]'(by omega)).toNat - 48) * 10 ^ (p.drop (zs p + 1)).length := Nat.mul_le_mul (by omega) hpow
    symm; rw [decide_eq_true_eq]; omega
  · split
    · rename_i h7
      rw [over_million _ hd (by rw [hl, h7]), val_drop_zs]
    · have hv := val_lt _ hd
      rw [val_drop_zs, hl] at hv
      have : 10 ^ (p.length - zs p) ≤ 10 ^ 6 := Nat.pow_le_pow_right (by omega) (by omega)
      symm; rw [decide_eq_false_iff_not]; omega

/-- The numeral of a run of digits is the run without its leading noughts (the last digit stays). -/
theorem dec_run (r : List UInt8) (h : ∀ c ∈ r, dig c = true) (h0 : r ≠ []) : Lib.decDigits (val r) = r.drop (zs r.dropLast) := by
  have hz := zs_le r.dropLast
  have hr : 1 ≤ r.length := by
    rcases r with _ | ⟨a, l⟩
    · exact absurd rfl h0
    · simp
  rw [List.length_dropLast] at hz
  have e : val r = val (r.drop (zs r.dropLast)) := by
    have e1 : r = r.take (zs r.dropLast) ++ r.drop (zs r.dropLast) := (List.take_append_drop ..).symm
    have hzero : val (r.take (zs r.dropLast)) = 0 := by
      have : ∀ k, k ≤ zs r.dropLast → val (r.take k) = 0 := by
        intro k
        induction k with
        | zero => intro _; simp [val]
        | succ k ih =>
          intro hk
          rw [take_snoc r k (by omega), val_snoc, ih (by omega)]
          have := zs_get r.dropLast k (by omega) (by rw [List.length_dropLast]; omega)
          rw [List.getElem_dropLast] at this
          rw [this]; rfl
      exact this _ (Nat.le_refl _)
    conv => lhs; rw [e1]
    rw [val_append, hzero]; omega
  rw [e]
  refine decDigits_val _ (fun c hc => h c (List.mem_of_mem_drop hc)) (fun hn => ?_) ?_
  · have := congrArg List.length hn
    simp at this; omega
  · by_cases hlt : zs r.dropLast < r.dropLast.length
    · right
      have hs := zs_stop r.dropLast hlt
      rw [List.getElem_dropLast] at hs
      rw [List.drop_eq_getElem_cons (by omega), List.head?_cons]
      intro hh; exact hs (by simpa using hh)
    · left
      rw [List.length_dropLast] at hlt
      rw [List.length_drop]; omega

/-! ### The run of digits at a place of a text, and parsenum's answer -/
def cut (b : List UInt8) (a e : Nat) : List UInt8 := (b.drop a).take (e - a)
def run (b : List UInt8) (a e : Nat) : List UInt8 := (cut b a e).takeWhile dig

theorem cut_length (b : List UInt8) (a e : Nat) (h : a ≤ e) (h2 : e ≤ b.length) : (cut b a e).length = e - a := by
  unfold cut; rw [List.length_take, List.length_drop]; omega
theorem cut_get (b : List UInt8) (a e k : Nat) (h : a + k < e) (h2 : e ≤ b.length) : (cut b a e)[k]? = some (b[a + k]'(by omega)) := by
  unfold cut
  rw [List.getElem?_take, if_pos (by omega), List.getElem?_drop, List.getElem?_eq_getElem (by omega)]

theorem tw_get {p : UInt8 → Bool} (l : List UInt8) (k : Nat) (h : k < (l.takeWhile p).length) : l[k]? = some ((l.takeWhile p)[k]) := by
  have e : l = l.takeWhile p ++ l.dropWhile p := (List.takeWhile_append_dropWhile ..).symm
  have : (l.takeWhile p ++ l.dropWhile p)[k]? = some ((l.takeWhile p)[k]) := by
    rw [List.getElem?_append_left h, List.getElem?_eq_getElem h]
  rw [← e] at this; exact this

theorem tw_stop {p : UInt8 → Bool} (l : List UInt8) (h : (l.takeWhile p).length < l.length) : ∃ c, l[(l.takeWhile p).length]? = some c ∧ p c = false := by
  induction l with
  | nil => simp at h
  | cons a l ih =>
    by_cases ha : p a = true
    · rw [List.takeWhile_cons_of_pos ha] at h ⊢
      obtain ⟨c, h1, h2⟩ := ih (by simpa using h)
      exact ⟨c, by simpa using h1, h2⟩
    · rw [List.takeWhile_cons_of_neg ha]
      exact ⟨a, rfl, by simpa using ha⟩

theorem run_le (b : List UInt8) (a e : Nat) (h : a ≤ e) (h2 : e ≤ b.length) : a + (run b a e).length ≤ e := by
  have : (run b a e).length ≤ (cut b a e).length := tw_len _
  rw [cut_length b a e h h2] at this; omega
theorem run_dig (b : List UInt8) (a e : Nat) : ∀ c ∈ run b a e, dig c = true := fun c hc => by
  exact tw_all _ c hc
theorem run_get (b : List UInt8) (a e k : Nat) (h : k < (run b a e).length) (ha : a ≤ e) (h2 : e ≤ b.length) : b[a + k]'(by have := run_le b a e ha h2; omega) = (run b a e)[k] := by
  have := run_le b a e ha h2
  have h1 := tw_get (cut b a e) k h
  rw [cut_get b a e k (by omega) h2] at h1
  exact Option.some.inj h1
theorem run_stop (b : List UInt8) (a e : Nat) (ha : a ≤ e) (h2 : e ≤ b.length) (h : a + (run b a e).length < e) : dig (b[a + (run b a e).length]'(by omega)) = false := by
  obtain ⟨c, h1, h3⟩ := tw_stop (p := dig) (cut b a e) (by rw [cut_length b a e ha h2]; show (run b a e).length < _; omega)
  rw [show ((cut b a e).takeWhile dig).length = (run b a e).length from rfl, cut_get b a e _ h h2] at h1
  simp only [Option.some.injEq] at h1
  rw [h1]; exact h3

/-- R is the run of digits that begins at place a of the text s, and ends ahead of b. -/
structure IsRun (s : ByteArray) (a b : Nat) (R : List UInt8) : Prop where
  le : a + R.length ≤ b
  hi : b ≤ s.size
  dig : ∀ c ∈ R, dig c = true
  get : ∀ (k : Nat) (h : k < R.length) (h2 : a + k < s.size), s[a + k] = R[k]
  stop : a + R.length < b → ∀ (h2 : a + R.length < s.size), Plain.dig s[a + R.length] = false

theorem isRun_run (s : ByteArray) (a b : Nat) (h : a ≤ b) (h2 : b ≤ s.size) : IsRun s a b (run s.data.toList a b) where
  le := run_le _ _ _ h h2
  hi := h2
  dig := run_dig _ _ _
  get := fun k hk _ => run_get _ _ _ k hk h h2
  stop := fun hlt _ => run_stop _ _ _ h h2 hlt

theorem IsRun.digit {s : ByteArray} {a b : Nat} {R : List UInt8} (h : IsRun s a b R) (k : Nat) (hk : k < R.length) (h2 : a + k < s.size) :
    48 ≤ (s[a + k].toNat : Int) ∧ (s[a + k].toNat : Int) ≤ 57 := by
  rw [h.get k hk h2]
  have := h.dig _ (List.getElem_mem hk)
  simp only [Plain.dig, decide_eq_true_eq] at this
  omega
theorem IsRun.other {s : ByteArray} {a b : Nat} {R : List UInt8} (h : IsRun s a b R) (hk : a + R.length < b) (h2 : a + R.length < s.size) :
    (s[a + R.length].toNat : Int) < 48 ∨ 57 < (s[a + R.length].toNat : Int) := by
  have := h.stop hk h2
  simp only [Plain.dig, decide_eq_false_iff_not] at this
  omega

theorem IsRun.zero {s : ByteArray} {a b : Nat} {R : List UInt8} (h : IsRun s a b R) (k : Nat) (hk : k < zs R.dropLast) (h2 : a + k < s.size) :
    48 ≤ (s[a + k].toNat : Int) ∧ (s[a + k].toNat : Int) ≤ 48 := by
  have hz := zs_le R.dropLast
  rw [List.length_dropLast] at hz
  have e := zs_get R.dropLast k hk (by rw [List.length_dropLast]; omega)
  rw [List.getElem_dropLast] at e
  rw [h.get k (by omega) h2, e]
  decide
theorem IsRun.nonzero {s : ByteArray} {a b : Nat} {R : List UInt8} (h : IsRun s a b R) (hk : zs R.dropLast < R.length - 1) (h2 : a + zs R.dropLast < s.size) :
    48 < (s[a + zs R.dropLast].toNat : Int) := by
  have e := zs_stop R.dropLast (by rw [List.length_dropLast]; exact hk)
  rw [List.getElem_dropLast] at e
  have hd := h.digit (zs R.dropLast) (by omega) h2
  have he := h.get (zs R.dropLast) (by omega) h2
  have : (s[a + zs R.dropLast].toNat : Int) ≠ 48 := fun hc => e (by
    rw [← he]
    exact UInt8.toNat_inj.1 (by show s[a + zs R.dropLast].toNat = 48; omega))
  omega

theorem IsRun.way {s : ByteArray} {a b : Nat} {R : List UInt8} (h : IsRun s a b R) :
    (∃ h2 : a + R.length < s.size, a + R.length < b ∧ ((s[a + R.length].toNat : Int) < 48 ∨ 57 < (s[a + R.length].toNat : Int))) ∨ b ≤ a + R.length := by
  have hb := h.hi
  by_cases hk : a + R.length < b
  · exact Or.inl ⟨by omega, hk, h.other hk (by omega)⟩
  · exact Or.inr (by omega)

/-- A piece of the text inside the run. -/
theorem IsRun.piece {s : ByteArray} {a b : Nat} {R : List UInt8} (h : IsRun s a b R) (i j : Nat) (hij : i ≤ j) (hj : j ≤ R.length) :
    (s.extract (a + i) (a + j)).data.toList = (R.take j).drop i := by
  have h1 := h.le
  have h2 := h.hi
  have hs : s.data.toList.length = s.size := rfl
  rw [ByteArray.data_extract, Array.toList_extract, List.extract_eq_take_drop]
  apply List.ext_getElem
  · rw [List.length_take, List.length_drop, List.length_drop, List.length_take]; omega
  · intro n h3 h4
    rw [List.length_drop, List.length_take] at h4
    rw [List.getElem_take, List.getElem_drop, List.getElem_drop, List.getElem_take]
    have := h.get (i + n) (by omega) (by omega)
    rw [← this]
    show s.data.toList[a + i + n] = s.data.toList[a + (i + n)]
    congr 1; omega

/-- z leading noughts, the run's last digit apart. -/
structure Lead (s : ByteArray) (a b : Nat) (R : List UInt8) (z : Nat) : Prop where
  run : IsRun s a b R
  eq : z = zs R.dropLast
theorem Lead.le {s : ByteArray} {a b z : Nat} {R : List UInt8} (h : Lead s a b R z) : z ≤ R.length - 1 := by
  have hz := zs_le R.dropLast
  rw [List.length_dropLast] at hz
  rw [h.eq]; exact hz
theorem Lead.zero {s : ByteArray} {a b z : Nat} {R : List UInt8} (h : Lead s a b R z) (k : Nat) (hk : k < z) (h2 : a + k < s.size) :
    48 ≤ (s[a + k].toNat : Int) ∧ (s[a + k].toNat : Int) ≤ 48 := h.run.zero k (h.eq ▸ hk) h2
theorem Lead.nonzero {s : ByteArray} {a b z : Nat} {R : List UInt8} (h : Lead s a b R z) (hk : z < R.length - 1) (h2 : a + z < s.size) :
    48 < (s[a + z].toNat : Int) := by
  have e := h.eq
  subst e
  exact h.run.nonzero hk h2
/-- Seven digits against "1000000". -/
theorem Lead.seven {s : ByteArray} {a b z : Nat} {R : List UInt8} (h : Lead s a b R z) (h7 : R.length - 1 - z = 7) (i j : Nat) (hi : i = a + z) (hj : j + 1 = a + R.length) :
    (!(Op.bytesLess (s.extract i j).data.toList million || (s.extract i j).data.toList == million)) = decide (1000000 < val R.dropLast) := by
  have hz := h.le
  have e : (s.extract i j).data.toList = R.dropLast.drop (zs R.dropLast) := by
    rw [hi, show j = a + (R.length - 1) by omega, h.run.piece z (R.length - 1) hz (by omega), ← List.dropLast_eq_take, ← h.eq]
  have hd : ∀ c ∈ R.dropLast.drop (zs R.dropLast), dig c = true := fun c hc => h.run.dig c (List.dropLast_subset _ (List.mem_of_mem_drop hc))
  rw [e, over_million _ hd (by rw [List.length_drop, List.length_dropLast, ← h.eq]; exact h7), val_drop_zs]
theorem Lead.big {s : ByteArray} {a b z : Nat} {R : List UInt8} (h : Lead s a b R z) (hv : 1000000 < val R.dropLast) : 7 ≤ R.length - 1 - z := by
  have h1 := tooBig_eq R.dropLast (fun c hc => h.run.dig c (List.dropLast_subset _ hc))
  rw [decide_eq_true hv] at h1
  unfold tooBig at h1
  rw [List.length_dropLast, ← h.eq] at h1
  split at h1
  · omega
  · split at h1
    · omega
    · cases h1
theorem Lead.fit {s : ByteArray} {a b z : Nat} {R : List UInt8} (h : Lead s a b R z) (hv : val R.dropLast ≤ 1000000) : R.length - 1 - z ≤ 7 := by
  have h1 := tooBig_eq R.dropLast (fun c hc => h.run.dig c (List.dropLast_subset _ hc))
  rw [decide_eq_false (by omega)] at h1
  unfold tooBig at h1
  rw [List.length_dropLast, ← h.eq] at h1
  split at h1
  · cases h1
  · omega
/-- The numeral of the run's value is the run without its leading noughts. -/
theorem Lead.numeral {s : ByteArray} {a b z : Nat} {R : List UInt8} (h : Lead s a b R z) (h0 : 0 < R.length) (i j : Nat) (hi : i = a + z) (hj : j = a + R.length) :
    (s.extract i j).data.toList = Lib.decDigits (val R) := by
  have hz := h.le
  rw [hi, hj, h.run.piece z R.length (by omega) (Nat.le_refl _), List.take_length, dec_run R h.run.dig (fun e => by rw [e] at h0; simp at h0), h.eq]

/-- parsenum's answer, by the run of digits: the number, whether there is one, the place behind it. -/
def pnNum (r : List UInt8) : Nat := if 1000000 < val r.dropLast then 0 else val r
def pnIs (r : List UInt8) : Bool := if 1000000 < val r.dropLast then false else decide (0 < r.length)
def pnNew (r : List UInt8) (a e : Nat) : Nat := if 1000000 < val r.dropLast then e else a + r.length

/-- What parsenum's loop knows after k digits. -/
def soFar (R : List UInt8) (k : Nat) : Nat := val (R.take k)
theorem soFar_zero (R : List UInt8) : soFar R 0 = 0 := by simp [soFar, val]
theorem soFar_le (R : List UInt8) (h : ∀ c ∈ R, dig c = true) (k : Nat) (hk : soFar R (k - 1) ≤ 1000000) (hlen : k ≤ R.length) : soFar R k ≤ 10000009 := by
  unfold soFar at *
  rcases k with _ | k
  · simp [val]
  · rw [take_snoc R k (by omega), val_snoc]
    have h2 := h _ (List.getElem_mem (show k < R.length by omega))
    simp only [dig, decide_eq_true_eq] at h2
    simp only [Nat.add_sub_cancel] at hk
    omega
theorem soFar_succ (R : List UInt8) (k : Nat) (hk : k < R.length) : soFar R (k + 1) = soFar R k * 10 + (R[k].toNat - 48) := by
  unfold soFar; rw [take_snoc R k hk, val_snoc]
theorem soFar_last (R : List UInt8) : soFar R (R.length - 1) = val R.dropLast := by
  unfold soFar; rw [List.dropLast_eq_take]
theorem soFar_all (R : List UInt8) : soFar R R.length = val R := by
  unfold soFar; rw [List.take_length]
theorem pn_over (R : List UInt8) (k : Nat) (hk : k < R.length) (h : 1000000 < soFar R k) : 1000000 < val R.dropLast :=
  Nat.lt_of_lt_of_le h (val_take_le R k hk)

theorem pnNum_big {R : List UInt8} (h : 1000000 < val R.dropLast) : pnNum R = 0 := if_pos h
theorem pnIs_big {R : List UInt8} (h : 1000000 < val R.dropLast) : pnIs R = false := if_pos h
theorem pnNew_big {R : List UInt8} (h : 1000000 < val R.dropLast) (a b : Nat) : pnNew R a b = b := if_pos h
theorem pnNum_fit {R : List UInt8} (h : val R.dropLast ≤ 1000000) : pnNum R = val R := if_neg (by omega)
theorem pnIs_fit {R : List UInt8} (h : val R.dropLast ≤ 1000000) : pnIs R = decide (0 < R.length) := if_neg (by omega)
theorem pnNew_fit {R : List UInt8} (h : val R.dropLast ≤ 1000000) (a b : Nat) : pnNew R a b = a + R.length := if_neg (by omega)

end Go.Proofs.Yoedmw.Plain
