/-
  THE WALK of zzItoa: the decimal numeral of n, laid from the right into a new array of 24 bytes.
-/
import Derived.Test.YoedmwWalks
namespace Go.Proofs.Yoedmw
open Go.RowKit Plain

/-- From place i on the 24 cells hold the bytes bs. -/
structure Buf (C : Array Value) (i : Nat) (bs : List UInt8) : Prop where
  size : C.size = 24
  len : bs.length + i = 24
  get : ∀ (j : Nat) (h : j < bs.length), C[i + j]? = some (.int .u8 (bs[j].toNat))


theorem Buf.start : Buf (Array.replicate 24 (.int .u8 0)) 24 [] where
  size := by simp
  len := rfl
  get := fun j h => absurd h (by simp)
theorem Buf.put {C : Array Value} {k : Nat} {bs : List UInt8} (h : Buf C (k + 1) bs) (c : UInt8) : Buf (C.setIfInBounds k (.int .u8 (c.toNat))) k (c :: bs) where
  size := by simp [h.size]
  len := by have := h.len; simp; omega
  get := fun j hj => by
    have h1 := h.len
    have h2 := h.size
    cases j with
    | zero => simp only [Nat.add_zero, List.getElem_cons_zero]; rw [Array.getElem?_setIfInBounds_self_of_lt (by omega)]
    | succ j =>
      have := h.get j (by simpa using hj)
      rw [Array.getElem?_setIfInBounds_ne (by omega), List.getElem_cons_succ, ← this]
      congr 1; omega

/-- What the loop keeps: the digits still to come, and those that lie. -/
structure Inv (n m i : Nat) (C : Array Value) (bs : List UInt8) : Prop where
  buf : Buf C i bs
  eq : dec0 n = dec0 m ++ bs
theorem Inv.start (n : Nat) : Inv n n 24 (Array.replicate 24 (.int .u8 0)) [] := ⟨Buf.start, by simp⟩
theorem Inv.room {n m i : Nat} {C : Array Value} {bs : List UInt8} (h : Inv n m i C bs) (hm : 0 < m) (hn : n ≤ 9223372036854775807) : 6 ≤ i ∧ i ≤ 24 := by
  have h1 := congrArg List.length h.eq
  have h2 := h.buf.len
  rw [List.length_append, dec0_pos hm] at h1
  have h3 := dec_len_pos m
  have h4 : (dec0 n).length ≤ 19 := by
    unfold dec0
    split
    · simp
    · exact (dec_length_le n (by omega)).1
  omega
theorem Inv.put {n m k : Nat} {C : Array Value} {bs : List UInt8} (h : Inv n m (k + 1) C bs) (hm : 0 < m) :
    Inv n (m / 10) k (C.setIfInBounds k (.int .u8 (48 + (m : Int) % 10))) (UInt8.ofNat (48 + m % 10) :: bs) where
  buf := by
    have := h.buf.put (UInt8.ofNat (48 + m % 10))
    rw [UInt8.toNat_ofNat_of_lt' (by show _ < 256; omega)] at this
    rw [show (48 + (m : Int) % 10) = ((48 + m % 10 : Nat) : Int) by omega]
    exact this
  eq := by rw [h.eq, dec0_step hm]; simp
theorem Inv.done {n i : Nat} {C : Array Value} {bs : List UInt8} (h : Inv n 0 i C bs) (h0 : 0 < n) : bs = Lib.decDigits n ∧ i < 24 ∧ bs.length = 24 - i := by
  have h1 := h.eq
  rw [dec0_zero, List.nil_append, dec0_pos h0] at h1
  have h2 := dec_len_pos n
  have h3 := h.buf.len
  rw [h1] at h2
  exact ⟨h1.symm, by omega, by omega⟩

theorem itoa_zero (w : World) :
    Calls Edmg.prog 8 #[.int .i64 0] w fun e w' => e = .returned (.string ⟨(Lib.decDigits 0).toArray⟩) ∧ w = w' := by
  go_enter Edmg.func8, Edmg.ntmps8
  go_wp2
  go_ret
  exact ⟨by rw [Lib.decDigits_one (by omega)]; rfl, rfl⟩

set_option maxHeartbeats 400000 in
theorem itoa_pos (n : Nat) (w : World) (h0 : 0 < n) (hn : n ≤ 9223372036854775807) :
    Calls Edmg.prog 8 #[.int .i64 n] w fun e w' => e = .returned (.string ⟨(Lib.decDigits n).toArray⟩) ∧ ∃ C, w' = w.alloc (.cells C 28) := by
  have hd1 : decide ((n : Int) < 0) = false := by simp
  have hd2 : ((n : Int) == 0) = false := by simp; omega
  go_enter Edmg.func8, Edmg.ntmps8
  go_wp2
  go_loopw [0, 4] (fun x i wr => ∃ (m k : Nat) (C : Array Value) (bs : List UInt8), m ≤ n ∧ x = .int .i64 m ∧ i = .int .i64 k ∧ wr = w.alloc (.cells C 28) ∧ Inv n m k C bs) (fun x _ _ => (intOf x).toNat)
  case atStart => exact ⟨n, 24, _, [], Nat.le_refl _, rfl, rfl, rfl, Inv.start n⟩
  case round =>
    obtain ⟨m, k, C, bs, hmn, rfl, rfl, rfl, hinv⟩ := hrel
    by_cases hm : 0 < m
    · obtain ⟨r1, r2⟩ := hinv.room hm hn
      obtain ⟨k, rfl⟩ : ∃ j, k = j + 1 := ⟨k - 1, by omega⟩
      have hsz : C.size = 24 := hinv.buf.size
      obtain ⟨v, hv⟩ : ∃ v, C[k]? = some v := ⟨C[k]'(by omega), Array.getElem?_eq_getElem (by omega)⟩
      clear hsz
      go_wp2
      go_roundw
      case rel => exact ⟨m / 10, k, _, _, by omega, by go_num, rfl, rfl, hinv.put hm⟩
      case measure => simp [intOf]; omega
    · obtain rfl : m = 0 := by omega
      obtain ⟨hb, hi, hlen⟩ := hinv.done h0
      have hal : Edmg.prog.arrayLen 28 = 24 := by simp [Program.arrayLen, Edmg.underlying28]
      have hsl : ∀ W, (Instr.sliceAt 28 (.pointer (some ⟨w.heap.size, 0, none⟩)) (some (.int .i64 (k : Int))) none none).run Edmg.prog W = .ok (.slice (some ⟨w.heap.size, k, none⟩) (24 - k) (24 - k)) W := fun W => by
        rw [run_sliceAt_array_l W 28 ⟨w.heap.size, 0, none⟩ (by simp [Program.arrayLen, Program.elem, Edmg.underlying28]) .i64 (k : Int) (by omega) (by rw [hal]; omega), hal]
        go_simp
        omega
      have hcv : (convert 29 9 (.slice (some ⟨w.heap.size, k, none⟩) (24 - k) (24 - k))).run Edmg.prog (w.alloc (.cells C 28)) = .ok (.string ⟨(Lib.decDigits n).toArray⟩) (w.alloc (.cells C 28)) := by
        have h := run_convert_bytes_back (P := Edmg.prog) (w.alloc (.cells C 28)) 29 9 5 ⟨w.heap.size, k, none⟩ (24 - k) bs Edmg.underlying29 Edmg.underlying5 Edmg.underlying9 (fun j hj => by
          rw [show (⟨w.heap.size, k, none⟩ : Addr).add j = ⟨w.heap.size, k + j, none⟩ from by simp [Addr.add], World.cell?_alloc_at _ _ _ _ rfl]
          exact hinv.buf.get j hj)
        rw [hlen] at h
        rw [h, hb]
      clear hal hb hlen hinv
      go_wp2
      go_ret
      exact ⟨rfl, _, rfl⟩
end Go.Proofs.Yoedmw
