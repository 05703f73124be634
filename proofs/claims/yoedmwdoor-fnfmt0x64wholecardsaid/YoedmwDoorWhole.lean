/-
  THE WALK of FnFmt0x64Whole inside its range.
-/
import Derived.Test.YoedmwDoorHex
namespace Go.Proofs.YoedmwDoor
open Go.RowKit

/-- s spells the bytes l. -/
structure Is (s : ByteArray) (l : List UInt8) : Prop where
  eq : s.data.toList = l
theorem Is.size {s : ByteArray} {l : List UInt8} (h : Is s l) : s.size = l.length := by rw [← h.eq]; rfl
theorem Is.same {s t : ByteArray} {l : List UInt8} (h : Is s l) (k : Is t l) : s = t := WideShapes.bytes_inj (h.eq.trans k.eq.symm)
theorem Is.mk' (l : List UInt8) : Is ⟨l.toArray⟩ l := ⟨rfl⟩
theorem Is.append {s t : ByteArray} {l m : List UInt8} (h : Is s l) (k : Is t m) : Is (s ++ t) (l ++ m) := ⟨by rw [ByteArray.data_append, Array.toList_append, h.eq, k.eq]⟩

theorem Got.putWp {w : World} {B : Nat} {F : Fl} {ao : Option Addr} {n c : Nat} {bs : List UInt8} (h : Got w B F ao n c bs) (b : Bool) : Got (w.setCell ⟨B, 3, none⟩ (.bool b)) B { F with wp := b } ao n c bs :=
  ⟨h.pr.putWp b, ownsRow_setCell_below h.own (by show B < B + 1; omega) _, h.len⟩
theorem Got.putWid {w : World} {B : Nat} {F : Fl} {ao : Option Addr} {n c : Nat} {bs : List UInt8} (h : Got w B F ao n c bs) (x : Int) : Got (w.setCell ⟨B, 15, none⟩ (.int .i64 x)) B { F with wid := x } ao n c bs :=
  ⟨h.pr.putWid x, ownsRow_setCell_below h.own (by show B < B + 1; omega) _, h.len⟩
theorem Got.putMi {w : World} {B : Nat} {F : Fl} {ao : Option Addr} {n c : Nat} {bs : List UInt8} (h : Got w B F ao n c bs) (b : Bool) : Got (w.setCell ⟨B, 5, none⟩ (.bool b)) B { F with mi := b } ao n c bs :=
  ⟨h.pr.putMi b, ownsRow_setCell_below h.own (by show B < B + 1; omega) _, h.len⟩
theorem Got.putZe {w : World} {B : Nat} {F : Fl} {ao : Option Addr} {n c : Nat} {bs : List UInt8} (h : Got w B F ao n c bs) (b : Bool) : Got (w.setCell ⟨B, 9, none⟩ (.bool b)) B { F with ze := b } ao n c bs :=
  ⟨h.pr.putZe b, ownsRow_setCell_below h.own (by show B < B + 1; omega) _, h.len⟩

/-- What the law reckons: the digits with noughts ahead, then with '0x', then with blanks. -/
def want1 (ze wp : Bool) (wid v : Nat) : List UInt8 := List.replicate ((if ze && wp then wid else 0) - (hexD v).length) 48 ++ hexD v
def want2 (lead ze wp : Bool) (wid v : Nat) : List UInt8 := (if lead then [48, 120] else []) ++ want1 ze wp wid v
def want3 (lead ze wp mi : Bool) (wid v : Nat) : List UInt8 := padOut mi (if wp then wid - (want2 lead ze wp wid v).length else 0) (want2 lead ze wp wid v)
theorem fmtOut_want (lead ze wp mi : Bool) (wid v : Nat) : fmtOut ⟨wp, mi, lead, ze, (wid : Int)⟩ v = want3 lead ze wp mi wid v := by
  unfold fmtOut want3
  have e : numOut ⟨wp, mi, lead, ze, (wid : Int)⟩ (wid : Int).toNat v = want2 lead ze wp wid v := rfl
  show padOut mi (if wp then ((wid : Int) - ((numOut ⟨wp, mi, lead, ze, (wid : Int)⟩ (wid : Int).toNat v).length : Int)).toNat else 0) (numOut ⟨wp, mi, lead, ze, (wid : Int)⟩ (wid : Int).toNat v) = _
  rw [e]
  congr 1
  split <;> omega

theorem want1_no {ze wp : Bool} {wid v n : Nat} (hn : n = (hexD v).length) (h : false = (ze && (wp && decide (n < wid)))) : want1 ze wp wid v = hexD v := by
  unfold want1
  have e : (if ze && wp then wid else 0) - (hexD v).length = 0 := by
    cases ze <;> cases wp <;> simp at h ⊢
    omega
  rw [e]; rfl
theorem want1_yes {ze wp : Bool} {wid v n : Nat} (hn : n = (hexD v).length) (h : true = (ze && (wp && decide (n < wid)))) : n < wid ∧ want1 ze wp wid v = List.replicate (wid - n) 48 ++ hexD v := by
  cases ze <;> cases wp <;> simp at h
  refine ⟨h, ?_⟩
  unfold want1
  rw [hn]; rfl
theorem want3_no {lead ze wp mi : Bool} {wid v n : Nat} (hn : n = (want2 lead ze wp wid v).length) (h : false = (wp && decide (n < wid))) : want3 lead ze wp mi wid v = want2 lead ze wp wid v := by
  unfold want3
  have e : (if wp then wid - (want2 lead ze wp wid v).length else 0) = 0 := by
    cases wp <;> simp at h ⊢
    omega
  rw [e]
  unfold padOut
  split <;> simp
theorem want3_yes {lead ze wp mi : Bool} {wid v n : Nat} (hn : n = (want2 lead ze wp wid v).length) (h : true = (wp && decide (n < wid))) :
    n < wid ∧ want3 lead ze wp mi wid v = if mi then want2 lead ze wp wid v ++ List.replicate (wid - n) 32 else List.replicate (wid - n) 32 ++ want2 lead ze wp wid v := by
  cases wp <;> simp at h
  refine ⟨h, ?_⟩
  unfold want3 padOut
  rw [hn]; rfl
theorem want1_len (ze wp : Bool) (wid v : Nat) (h : wid ≤ 65536) : (want1 ze wp wid v).length ≤ 65552 := by
  unfold want1
  have := (hexD_len v).2
  rw [List.length_append, List.length_replicate]
  split <;> omega

/-- zzRepeat at whatever number is in its range. -/
theorem zzRepeatI (w : World) (c : UInt8) (x : Int) (n : Nat) (hx : x = n) (h1 : 1 ≤ n) (h2 : n ≤ 65536) :
    Calls Edmg.prog 13 #[.int .u8 (c.toNat : Int), .int .i64 x] w fun e w' => e = .returned (.string ⟨(List.replicate n c).toArray⟩) ∧ Below w.heap.size w w' := by
  subst hx; exact zzRepeat w c n h1 h2

set_option maxRecDepth 100000 in
set_option maxHeartbeats 1600000 in
theorem whole_walk (w : World) (v : Nat) (lead sb wp : Bool) (wid : Nat) (mi ze : Bool) (hv : v < 18446744073709551616) (hwid : wid ≤ 65536) (hzm : ze = false ∨ mi = false) (h2 : 2 ≤ w.heap.size) (hmx : w.cell? ⟨0, 0, none⟩ = some (.int .i64 2147483647)) :
    Calls Edmg.prog 3 #[.int .u64 v, .bool lead, .bool sb, .bool wp, .int .i64 wid, .bool mi, .bool ze] w fun e w' => e = .returned (.bool true) ∧ Below w.heap.size w w' := by
  have HV : Hid (v < 18446744073709551616) := hv
  have H2 : Hid (2 ≤ w.heap.size) := h2
  have hd1 : decide ((wid : Int) < 0) = false := by simp
  have hd2 : decide ((65536 : Int) < (wid : Int)) = false := by rw [decide_eq_false_iff_not]; omega
  clear hv h2
  go_enter Edmg.func3, Edmg.ntmps3
  go_upto_region 3 with fail
  go_cut [29] from 26 to 29 (fun t wx => t = .bool false ∧ wx = w)
  case first =>
    cases ze
    · go_wp2_with fail
      go_meet
      exact ⟨rfl, rfl⟩
    · have hm : mi = false := by
        rcases hzm with h | h
        · cases h
        · exact h
      subst hm
      go_wp2_with fail
      go_meet
      exact ⟨rfl, rfl⟩
  case rest =>
    obtain ⟨rfl, hwc⟩ := hcut
    have hwc' := hwc.symm
    clear hwc
    subst hwc'
    go_wp2_with fail
    refine (newPrinter _ H2.out hmx).mono ?_
    rintro e w1 ⟨rfl, hP1, hb1⟩
    have hG1 : Got w1 w.heap.size ⟨false, false, false, false, 0⟩ none 0 0 [] := ⟨hP1, World.ownsRow_nil _ _ _ _, rfl⟩
    clear hP1
    go_wp2_with fail
    refine (setWidth _ _ _ _ wp wid hG1.pr).mono ?_
    rintro e w2 ⟨rfl, hw2⟩
    have hG2 : Got w2 w.heap.size ⟨wp, false, false, false, (wid : Int)⟩ none 0 0 [] := by rw [hw2]; exact (hG1.putWp wp).putWid wid
    have hb2 : Below w.heap.size w w2 := by rw [hw2]; exact (hb1.setCell (Nat.le_refl _) _).setCell (Nat.le_refl _) _
    clear hw2 hG1 hb1
    go_wp2_with fail
    refine (setMinus _ _ _ _ mi hG2.pr).mono ?_
    rintro e w3 ⟨rfl, hw3⟩
    have hG3 : Got w3 w.heap.size ⟨wp, mi, false, false, (wid : Int)⟩ none 0 0 [] := by rw [hw3]; exact hG2.putMi mi
    have hb3 : Below w.heap.size w w3 := by rw [hw3]; exact hb2.setCell (Nat.le_refl _) _
    clear hw3 hG2 hb2
    go_wp2_with fail
    refine (setZero _ _ _ _ ze hG3.pr).mono ?_
    rintro e w4 ⟨rfl, hw4⟩
    have hG4 : Got w4 w.heap.size ⟨wp, mi, false, ze, (wid : Int)⟩ none 0 0 [] := by rw [hw4]; exact hG3.putZe ze
    have hb4 : Below w.heap.size w w4 := by rw [hw4]; exact hb3.setCell (Nat.le_refl _) _
    clear hw4 hG3 hb3
    go_wp2_with fail
    refine (setSharp _ _ _ _ sb hG4.pr).mono ?_
    rintro e w5 ⟨rfl, hw5⟩
    have hG5 : Got w5 w.heap.size ⟨wp, mi, sb, ze, (wid : Int)⟩ none 0 0 [] := by rw [hw5]; exact hG4.putSh sb
    have hb5 : Below w.heap.size w w5 := by rw [hw5]; exact hb4.setCell (Nat.le_refl _) _
    clear hw5 hG4 hb4
    go_wp2_with fail
    refine (zzfmt0x64 _ _ ⟨wp, mi, sb, ze, (wid : Int)⟩ v lead HV.out hG5 (by show (0 : Int) ≤ (wid : Int); omega) (by show (wid : Int) ≤ 65536; omega)).mono ?_
    rintro e w6 ⟨rfl, ao, n, c, hG6, hb6⟩
    have hb6' : Below w.heap.size w w6 := hb5.trans hb6
    have hbuf := zzbuf w6 w.heap.size _ ao n c _ hG6 (fmtOut_ne _ _)
    obtain ⟨gs, hgs, hIs⟩ : ∃ gs : ByteArray, gs = ⟨(fmtOut ⟨wp, mi, lead, ze, (wid : Int)⟩ v).toArray⟩ ∧ Is gs (want3 lead ze wp mi wid v) := ⟨_, rfl, by rw [fmtOut_want]; exact Is.mk' _⟩
    have HBUF : Hid (Calls Edmg.prog 11 #[.pointer (some ⟨w.heap.size, 0, none⟩)] w6 fun e w' => e = .returned (.string gs) ∧ w6 = w') := by rw [hgs]; exact hbuf
    have k7 : w6.cell? ⟨w.heap.size, 7, none⟩ = some (.bool sb) := hG6.pr.c7
    have hB6 : w.heap.size < w6.heap.size := hG6.pr.lt
    clear hgs hbuf hG5 hG6 hb5 hb6
    go_wp2_with fail
    refine HBUF.out.mono ?_
    rintro e w7 ⟨rfl, rfl⟩
    clear HBUF
    go_wp2_with fail
    refine (zzHex _ v HV.out).mono ?_
    rintro e w7 ⟨rfl, hb7⟩
    obtain ⟨s0, hs0, hI0⟩ : ∃ s0 : ByteArray, (⟨(hexD v).toArray⟩ : ByteArray) = s0 ∧ Is s0 (hexD v) := ⟨_, rfl, Is.mk' _⟩
    rw [hs0]
    clear hs0
    have hz0 : s0.size ≤ 16 := by rw [hI0.size]; exact (hexD_len v).2
    have HB7 : Hid (Below w6.heap.size w6 w7) := hb7
    clear hb7
    go_upto_region 13 with fail
    go_cut [61] from 52 to 61 (fun t wx => t = .bool (ze && (wp && decide (s0.size < wid))) ∧ wx = w7)
    case first =>
      cases ze
      · go_wp2_with fail
        go_meet
        exact ⟨rfl, rfl⟩
      · cases wp
        · go_wp2_with fail
          go_meet
          exact ⟨rfl, rfl⟩
        · go_wp2_with fail
          go_meet
          exact ⟨rfl, rfl⟩
    case rest =>
      obtain ⟨rfl, hwc⟩ := hcut
      have hwc' := hwc.symm
      clear hwc
      subst hwc'
      obtain ⟨b, hb⟩ : ∃ b, b = (ze && (wp && decide (s0.size < wid))) := ⟨_, rfl⟩
      rw [← hb]
      have HBT : Hid (b = (ze && (wp && decide (s0.size < wid)))) := hb
      clear hb
      go_upto_if 61 with fail
      go_cut [17] from 61 to 68 (fun s wx => ∃ s1 : ByteArray, s = .string s1 ∧ Is s1 (want1 ze wp wid v) ∧ Below w6.heap.size w6 wx)
      case first =>
        cases b
        · go_wp2_with fail
          go_meet
          exact ⟨s0, rfl, by rw [want1_no hI0.size HBT.out]; exact hI0, HB7.out⟩
        · obtain ⟨hlt, e1⟩ := want1_yes hI0.size HBT.out
          have HE : Hid (want1 ze wp wid v = List.replicate (wid - s0.size) 48 ++ hexD v) := e1
          clear e1
          go_wp2_with fail
          refine (zzRepeatI _ 48 _ (wid - s0.size) (by omega) (by omega) (by omega)).mono ?_
          rintro e w8 ⟨rfl, hb8⟩
          obtain ⟨r, hr, hIr⟩ : ∃ r : ByteArray, (⟨(List.replicate (wid - s0.size) (48 : UInt8)).toArray⟩ : ByteArray) = r ∧ Is r (List.replicate (wid - s0.size) 48) := ⟨_, rfl, Is.mk' _⟩
          rw [hr]
          clear hr
          have hrs : r.size ≤ 65536 := by rw [hIr.size, List.length_replicate]; omega
          go_wp2_with fail
          go_meet
          exact ⟨r ++ s0, rfl, by rw [HE.out]; exact hIr.append hI0, HB7.out.trans (hb8.mono HB7.out.size)⟩
      case rest =>
        obtain ⟨s1, rfl, hI1, hb8⟩ := hcut
        have hs1 : s1.size ≤ 65552 := by rw [hI1.size]; exact want1_len ze wp wid v hwid
        have HB8 : Hid (Below w6.heap.size w6 wc) := hb8
        clear hb8 HB7 HBT hI0 hz0
        go_upto_if 69 with fail
        go_cut [17] from 69 to 71 (fun s wx => ∃ s2 : ByteArray, s = .string s2 ∧ Is s2 (want2 lead ze wp wid v) ∧ s2.size ≤ 65554 ∧ Below w6.heap.size w6 wx)
        case first =>
          cases lead
          · go_wp2_with fail
            go_meet
            exact ⟨s1, rfl, hI1, by omega, HB8.out⟩
          · go_wp2_with fail
            go_meet
            exact ⟨⟨#[48, 120]⟩ ++ s1, rfl, Is.append (Is.mk' [48, 120]) hI1, by rw [ByteArray.size_append]; show 2 + s1.size ≤ 65554; omega, HB8.out⟩
        case rest =>
          obtain ⟨s2, rfl, hI2, hs2, hb9⟩ := hcut
          clear hI1 hs1 HB8
          have HB8 : Hid (Below w6.heap.size w6 wc) := hb9
          clear hb9
          go_upto_region 18 with fail
          go_cut [79] from 73 to 79 (fun t wx => t = .bool (wp && decide (s2.size < wid)) ∧ Below w6.heap.size w6 wx)
          case first =>
            cases wp
            all_goals
              go_wp2_with fail
              go_meet
              exact ⟨rfl, HB8.out⟩
          case rest =>
            obtain ⟨rfl, hb9⟩ := hcut
            clear HB8
            have HB8 : Hid (Below w6.heap.size w6 wc) := hb9
            clear hb9
            obtain ⟨b2, hb2⟩ : ∃ b2, b2 = (wp && decide (s2.size < wid)) := ⟨_, rfl⟩
            rw [← hb2]
            have HBT : Hid (b2 = (wp && decide (s2.size < wid))) := hb2
            clear hb2
            go_upto_if 79 with fail
            go_cut [18, 19] from 79 to 92 (fun s _ wx => ∃ s3 : ByteArray, s = .string s3 ∧ Is s3 (want3 lead ze wp mi wid v) ∧ Below w6.heap.size w6 wx)
            case first =>
              cases b2
              · go_wp2_with fail
                go_meet
                exact ⟨s2, rfl, by rw [want3_no hI2.size HBT.out]; exact hI2, HB8.out⟩
              · obtain ⟨hlt, e1⟩ := want3_yes (mi := mi) hI2.size HBT.out
                have HE : Hid (want3 lead ze wp mi wid v = if mi then want2 lead ze wp wid v ++ List.replicate (wid - s2.size) 32 else List.replicate (wid - s2.size) 32 ++ want2 lead ze wp wid v) := e1
                clear e1
                cases mi
                all_goals
                  go_wp2_with fail
                  refine (zzRepeatI _ 32 _ (wid - s2.size) (by omega) (by omega) (by omega)).mono ?_
                  rintro e w9 ⟨rfl, hb9⟩
                  obtain ⟨r, hr, hIr⟩ : ∃ r : ByteArray, (⟨(List.replicate (wid - s2.size) (32 : UInt8)).toArray⟩ : ByteArray) = r ∧ Is r (List.replicate (wid - s2.size) 32) := ⟨_, rfl, Is.mk' _⟩
                  rw [hr]
                  clear hr
                  have hrs : r.size ≤ 65536 := by rw [hIr.size, List.length_replicate]; omega
                  go_wp2_with fail
                  go_meet
                  first
                    | exact ⟨r ++ s2, rfl, by rw [HE.out]; exact hIr.append hI2, HB8.out.trans (hb9.mono HB8.out.size)⟩
                    | exact ⟨s2 ++ r, rfl, by rw [HE.out]; exact hI2.append hIr, HB8.out.trans (hb9.mono HB8.out.size)⟩
            case rest =>
              obtain ⟨s3, rfl, hI3, hb9⟩ := hcut
              obtain rfl : gs = s3 := hIs.same hI3
              have kf : wc.cell? ⟨w.heap.size, 7, none⟩ = some (.bool sb) := (hb9.cell (p := ⟨w.heap.size, 7, none⟩) hB6).trans k7
              have hfin : Below w.heap.size w wc := hb6'.trans (hb9.mono (Nat.le_of_lt hB6))
              clear hIs hI3 hb9 HB8 HBT k7
              go_wp2_with fail
              refine (getSharp _ _ sb kf).mono ?_
              rintro e w10 ⟨rfl, rfl⟩
              go_wp2_with fail
              go_ret
              exact ⟨rfl, hfin⟩
end Go.Proofs.YoedmwDoor
