/-
  THE WALK of (*formatter).fmtInteger at base 16, unsigned, verb 'v', the lower-case digits.
-/
import Derived.Test.YoedmwDoorInt
namespace Go.Proofs.YoedmwDoor
open Go.RowKit

/-- "0123456789abcdefx" -/
def ldig : ByteArray := ⟨#[48, 49, 50, 51, 52, 53, 54, 55, 56, 57, 97, 98, 99, 100, 101, 102, 120]⟩

/-- The number as fmtInteger lays it: the digits, noughts ahead of them where the zero flag asks for a width, '0x' ahead of all where the sharp flag is set. -/
def numOut (F : Fl) (wid v : Nat) : List UInt8 := (if F.sh then [48, 120] else []) ++ (List.replicate ((if F.ze && F.wp then wid else 0) - (hexD v).length) 48 ++ hexD v)
theorem numOut_low (F : Fl) (wid v : Nat) : ∀ c ∈ numOut F wid v, c.toNat < 128 := by
  intro c hc
  unfold numOut at hc
  rcases List.mem_append.1 hc with hc | hc
  · cases hs : F.sh
    · rw [hs] at hc; simp at hc
    · rw [hs] at hc
      simp only [if_true, List.mem_cons, List.not_mem_nil, or_false] at hc
      rcases hc with rfl | rfl <;> decide
  · rcases List.mem_append.1 hc with hc | hc
    · rw [List.eq_of_mem_replicate hc]; decide
    · obtain ⟨d, hd, rfl⟩ := hexD_dig v c hc
      exact hexDig_low d hd
/-- What the printer has gathered behind fmtInteger. -/
def fmtOut (F : Fl) (v : Nat) : List UInt8 := padOut F.mi (if F.wp then (F.wid - (numOut F F.wid.toNat v).length).toNat else 0) (numOut F F.wid.toNat v)

theorem idx_ldig (d : Nat) (hd : d < 16) (k : IntKind) (W : World) : (Instr.index 9 (.string ldig) (.int k (d : Int))).run Edmg.prog W = .ok (.int .u8 ((hexDig d).toNat : Int)) W := by
  have key : ∀ d : Fin 16, ldig.data.toList[d.val]? = some (hexDig d.val) := by decide
  have hk := key ⟨d, hd⟩
  have hsz : ldig.size = 17 := rfl
  rw [run_index_string W 9 ldig k d Edmg.underlying9, dif_pos ⟨by omega, by rw [hsz]; omega⟩]
  have e : (ldig[((d : Int)).toNat]'(by rw [hsz]; omega)) = hexDig d := by
    have h1 : ldig.data.toList[d]? = some (ldig[((d : Int)).toNat]'(by rw [hsz]; omega)) := List.getElem?_eq_getElem (show d < ldig.data.toList.length by show d < 17; omega)
    rw [h1] at hk
    exact Option.some.inj hk
  rw [e]

set_option maxRecDepth 100000 in
set_option maxHeartbeats 1600000 in
theorem fmtInteger (w : World) (B : Nat) (F : Fl) (v : Nat) (hv : v < 18446744073709551616) (hG : Got w B F none 0 0 []) (h1 : 0 ≤ F.wid) (h2 : F.wid ≤ 65536) :
    Calls Edmg.prog 19 #[.pointer (some ⟨B, 2, none⟩), .int .u64 v, .int .i64 16, .bool false, .int .i32 118, .string ldig] w fun e w' => e = .returned (.tuple #[]) ∧
      ∃ ao n c, Got w' B F ao n c (fmtOut F v) ∧ Below B w w' := by
  have c3 := hG.pr.c3
  have c4 := hG.pr.c4
  have HG : Hid (Got w B F none 0 0 []) := hG
  have HV : Hid (v < 18446744073709551616) := hv
  have hc15 := hG.pr.c15
  have c16 := hG.pr.c16
  clear hv hG
  obtain ⟨wid, hwid⟩ := Int.eq_ofNat_of_zero_le h1
  rw [hwid] at hc15
  have c15 : w.cell? ⟨B, 15, none⟩ = some (.int .i64 wid) := hc15
  have hw2 : wid ≤ 65536 := by omega
  have HW2 : Hid (F.wid ≤ 65536) := h2
  have HW : Hid (F.wid = wid) := hwid
  clear hc15 hwid h1 h2
  go_enter Edmg.func19, Edmg.ntmps19
  go_upto_region 4 with fail
  go_cut [44] from 33 to 44 (fun t wc => t = .bool F.wp ∧ wc = w)
  case first =>
    cases hwp : F.wp
    all_goals
      rw [hwp] at c3
      go_wp2_with fail
      go_meet
      exact ⟨by rw [hwp], rfl⟩
  case rest =>
    obtain ⟨rfl, hwc⟩ := hcut
    have hwc' := hwc.symm
    clear hwc
    subst hwc'
    go_upto_if 44 with fail
    go_cut [13, 14] from 44 to 60 (fun b _ wx => ∃ D o N : Nat, b = .slice (some ⟨D, o, none⟩) N N ∧ Room w wx B F D o N ∧ (F.wp = true → wid + 3 ≤ N) ∧ 68 ≤ N ∧ N ≤ 70000)
    case first =>
      cases hwp : F.wp
      · go_wp2_with fail
        go_meet
        exact ⟨B, 17, 68, rfl, room_int HG.out, (fun h => by rw [hwp] at h; cases h), by omega, by omega⟩
      · by_cases hbig : 65 < wid
        · have hmk := fun W => run_make_bytes 36 Edmg.underlying36 W (3 + wid) (3 + (wid : Int)) (by omega) (by omega)
          go_wp2_with fail
          go_quiet (fail)
          go_wp2_with fail
          go_meet
          exact ⟨w.heap.size, 0, 3 + wid, rfl, (room_new (HG.out.drewN nq) (3 + wid)).ofDrewN, (fun _ => by omega), by omega, by omega⟩
        · go_wp2_with fail
          go_quiet (fail)
          go_wp2_with fail
          go_meet
          exact ⟨B, 17, 68, rfl, (room_int (HG.out.drewN nq)).ofDrewN, (fun _ => by omega), by omega, by omega⟩
    case rest =>
      obtain ⟨D, o, N, rfl, hR, hN1, hN2, hN3⟩ := hcut
      clear c3 c4 c15 c16 HG
      have c4 := hR.got.pr.c4
      have c3 := hR.got.pr.c3
      have c6 := hR.got.pr.c6
      have c8 := hR.got.pr.c8
      have c9 := hR.got.pr.c9
      have c15 : wc.cell? ⟨B, 15, none⟩ = some (.int .i64 wid) := by rw [← HW.out]; exact hR.got.pr.c15
      go_upto_if 65 with fail
      go_cut [15] from 66 to 128 (fun p wx => p = .int .i64 ((if F.ze && F.wp then wid else 0 : Nat) : Int) ∧ wx = wc)
      case first =>
        cases hze : F.ze
        all_goals
          rw [hze] at c9
          cases hwp : F.wp
          all_goals
            rw [hwp] at c3
            go_wp2_with fail
            go_meet
            exact ⟨by rw [hze, hwp]; rfl, rfl⟩
      case rest =>
        obtain ⟨rfl, hwc⟩ := hcut
        subst hwc
        obtain ⟨p, hp⟩ : ∃ p : Nat, p = (if F.ze && F.wp then wid else 0) := ⟨_, rfl⟩
        have hpN : p + 3 ≤ N := by
          rw [hp]
          cases hwp : F.wp
          · rw [Bool.and_false]
            simp; omega
          · have := hN1 hwp
            split <;> omega
        rw [← hp]
        clear hN1 c4 c3 c6 c8 c9 c15 hw2
        have HP : Hid (p = (if F.ze && F.wp then wid else 0)) := hp
        have HR : Hid (Room w wc B F D o N) := hR
        clear hp hR
        go_wp2_with fail
        go_loopw [1, 17] (fun x y wr => ∃ (u i : Nat) (bs : List UInt8), x = .int .u64 u ∧ y = .int .i64 i ∧ HexIn w wr B F D o N v u i bs) (fun x _ _ => (intOf x).toNat)
        case atStart => exact ⟨v, N, [], rfl, rfl, HexIn.start HR.out HV.out⟩
        case round =>
          obtain ⟨u, i, bs, rfl, rfl, hX⟩ := hrel
          obtain ⟨r1, r2⟩ := hX.room
          obtain ⟨i, rfl⟩ : ∃ j, i = j + 1 := ⟨i - 1, by omega⟩
          obtain ⟨⟨z, hz⟩, hfz⟩ := hX.buf.cell i (by omega)
          by_cases hu : u < 16
          · have hix := idx_ldig u hu .u64
            have hd16 : decide (16 ≤ (u : Int)) = false := by rw [decide_eq_false_iff_not]; omega
            have HL : Hid (Bufr w (wr.setCell ⟨D, o + i, none⟩ (.int .u8 ((hexDig u).toNat : Int))) B F D o N i (hexD v)) := hX.last hu
            go_wp2_with fail
            clear hix hz hfz hX
            go_loopw [17] (fun y wz => ∃ j m : Nat, y = .int .i64 j ∧ Bufr w wz B F D o N j (List.replicate m 48 ++ hexD v) ∧ (m = 0 ∨ m + (hexD v).length ≤ p)) (fun y _ => (intOf y).toNat)
            case atStart => exact ⟨i, 0, rfl, HL.out, Or.inl rfl⟩
            case round =>
              clear HL
              obtain ⟨j, m, rfl, hZ, hm⟩ := hrel
              have hjl := hZ.len
              rw [List.length_append, List.length_replicate] at hjl
              have hl16 := (hexD_len v).2
              have hl1 := (hexD_len v).1
              by_cases hlt : m + (hexD v).length < p
              · obtain ⟨j, rfl⟩ : ∃ k, j = k + 1 := ⟨j - 1, by omega⟩
                obtain ⟨⟨z, hz⟩, hfz⟩ := hZ.cell j (by omega)
                have hin : (N : Int) - ((j + 1 : Nat) : Int) < (p : Int) := by omega
                have hjN : j < N := by omega
                have HM : Hid (m + (hexD v).length < p) := hlt
                clear hjl hm hlt hl16 hl1
                go_wp2_with fail
                go_roundw
                case rel => exact ⟨j, m + 1, by go_num, hZ.put 48, Or.inr (by have := HM.out; omega)⟩
                case measure => simp [intOf]
              · have hout : (p : Int) ≤ (N : Int) - (j : Int) := by omega
                have hj0 : (0 : Int) < (j : Int) := by omega
                have HM : Hid (m = p - (hexD v).length) := by
                  show m = _
                  omega
                have hjN : j < N := by omega
                have hj3 : 3 ≤ j := by omega
                have c7 := hZ.room.got.pr.c7
                clear hjl hm hlt hl16 hl1
                go_upto_if 223 with fail
                go_cut [17] from 223 to 262 (fun y wz => ∃ k : Nat, y = .int .i64 k ∧ k < N ∧ Bufr w wz B F D o N k ((if F.sh then [48, 120] else []) ++ (List.replicate m 48 ++ hexD v)))
                case first =>
                  cases hsh : F.sh
                  · go_wp2_with fail
                    go_meet
                    exact ⟨j, rfl, hjN, by rw [hsh]; exact hZ⟩
                  · obtain ⟨j, rfl⟩ : ∃ k, j = k + 2 := ⟨j - 2, by omega⟩
                    obtain ⟨⟨z, hz⟩, hfz⟩ := hZ.cell (j + 1) (by omega)
                    obtain ⟨⟨z2, hz2⟩, hfz2⟩ := hZ.cell j (by omega)
                    have HZ1 : Hid (Bufr w (wr.setCell ⟨D, o + (j + 1), none⟩ (.int .u8 120)) B F D o N (j + 1) (120 :: (List.replicate m 48 ++ hexD v))) := hZ.put 120
                    have hix : ∀ W, (Instr.index 9 (.string ldig) (.int .i64 16)).run Edmg.prog W = .ok (.int .u8 120) W := fun W => rfl
                    go_wp2_with fail
                    go_meet
                    exact ⟨j, by go_num, by omega, by rw [hsh]; exact HZ1.out.put 48⟩
                case rest =>
                  obtain ⟨k, rfl, hkN, hK⟩ := hcut
                  obtain ⟨src, hsrc⟩ : ∃ src, src = (if F.sh then [48, 120] else []) ++ (List.replicate m 48 ++ hexD v) := ⟨_, rfl⟩
                  rw [← hsrc] at hK
                  have HSRC : Hid (src = numOut F wid v) := by
                    show src = _
                    rw [hsrc, HM.out, HP.out]; rfl
                  clear hsrc hZ c7 HM HP hjN hj3
                  have hlow : ∀ c ∈ src, c.toNat < 128 := by rw [HSRC.out]; exact numOut_low F wid v
                  obtain ⟨hg1, hs1, ha1⟩ := hK.atPad hlow
                  have hkl := hK.len
                  have hsl := sl_l 36 Edmg.underlying36 D o N N k (k : Int) rfl (by omega) hkN
                  rw [show N - k = src.length by omega] at hsl
                  have c6 := hK.room.got.pr.c6
                  have c8 := hK.room.got.pr.c8
                  have c9 := hK.room.got.pr.c9
                  have fr := hK.room.got.pr.fr 9
                  have HG1 : Hid (Got (wc.setCell ⟨B, 9, none⟩ (.bool false)) B { F with ze := false } none 0 0 []) := hg1
                  have HS1 : Hid (SrcAt (wc.setCell ⟨B, 9, none⟩ (.bool false)) B none D (o + k) src) := hs1
                  have HA1 : Hid (Asc (wc.setCell ⟨B, 9, none⟩ (.bool false)) D (o + k) src) := ha1
                  have hsl2 : src.length ≤ 100000 := by omega
                  have hw1 : 0 ≤ F.wid := by rw [HW.out]; omega
                  have HK : Hid (Bufr w wc B F D o N k src) := hK
                  clear hg1 hs1 ha1 hkl hK hlow
                  go_wp2_with fail
                  refine (got_pad _ B { F with ze := false } D (o + k) src.length src HG1.out HS1.out HA1.out hsl2 rfl hw1 HW2.out).mono ?_
                  rintro e w2 ⟨rfl, hx⟩
                  obtain ⟨ao, n, c, hg, hs⟩ := hx
                  have k9 := hg.pr.c9
                  have f9 := hg.pr.fr 9
                  obtain ⟨hfin, hbel⟩ := after_pad HK.out hg hs
                  rw [HSRC.out] at hfin
                  clear hg hs
                  go_wp2_with fail
                  go_end0
                  refine ⟨rfl, ao, n, c, ?_, hbel⟩
                  unfold fmtOut
                  rw [show F.wid.toNat = wid by rw [HW.out]; rfl]
                  exact hfin
          · have hand := hX.and15
            have hix : ∀ W, (Instr.index 9 (.string ldig) (.int .u64 ((u : Int) % 16))).run Edmg.prog W = .ok (.int .u8 ((hexDig (u % 16)).toNat : Int)) W := fun W => by
              have := idx_ldig (u % 16) (by omega) .u64 W
              rw [show ((u % 16 : Nat) : Int) = (u : Int) % 16 by omega] at this
              exact this
            rw [show ((u % 16 : Nat) : Int) = (u : Int) % 16 by omega] at hand
            go_wp2_with fail
            go_roundw
            case rel => exact ⟨u / 16, i, _, by go_num, by go_num, hX.put hu⟩
            case measure => simp [intOf]; omega

end Go.Proofs.YoedmwDoor
