/-
  THE WALKS of (*pp).fmt0x64 and ZZfmt0x64, and what the printer's text reads as behind them.
-/
import Derived.Test.YoedmwDoorInt2
namespace Go.Proofs.YoedmwDoor
open Go.RowKit

theorem Got.putSh {w : World} {B : Nat} {F : Fl} {ao : Option Addr} {n c : Nat} {bs : List UInt8} (h : Got w B F ao n c bs) (b : Bool) : Got (w.setCell ⟨B, 7, none⟩ (.bool b)) B { F with sh := b } ao n c bs :=
  ⟨h.pr.putSh b, ownsRow_setCell_below h.own (by show B < B + 1; omega) _, h.len⟩

set_option maxHeartbeats 400000 in
theorem fmt0x64 (w : World) (B : Nat) (F : Fl) (v : Nat) (lead : Bool) (hv : v < 18446744073709551616) (hG : Got w B F none 0 0 []) (h1 : 0 ≤ F.wid) (h2 : F.wid ≤ 65536) :
    Calls Edmg.prog 17 #[.pointer (some ⟨B, 0, none⟩), .int .u64 v, .bool lead] w fun e w' => e = .returned (.tuple #[]) ∧
      ∃ ao n c, Got w' B F ao n c (fmtOut { F with sh := lead } v) ∧ Below B w w' := by
  have c7 := hG.pr.c7
  have fr := hG.pr.fr 7
  have HG : Hid (Got (w.setCell ⟨B, 7, none⟩ (.bool lead)) B { F with sh := lead } none 0 0 []) := hG.putSh lead
  have HV : Hid (v < 18446744073709551616) := hv
  have H1 : Hid (0 ≤ F.wid) := h1
  have H2 : Hid (F.wid ≤ 65536) := h2
  clear hG hv h1 h2
  go_enter Edmg.func17, Edmg.ntmps17
  go_wp2_with fail
  refine (fmtInteger _ B { F with sh := lead } v HV.out HG.out H1.out H2.out).mono ?_
  rintro e w2 ⟨rfl, ao, n, c, hg, hb⟩
  have k7 := hg.pr.c7
  have f7 := hg.pr.fr 7
  have HF : Hid (Got (w2.setCell ⟨B, 7, none⟩ (.bool F.sh)) B F ao n c (fmtOut { F with sh := lead } v)) := hg.putSh F.sh
  have HB : Hid (Below B w (w2.setCell ⟨B, 7, none⟩ (.bool F.sh))) := ((((Below.refl B w).setCell (p := ⟨B, 7, none⟩) (Nat.le_refl _) (.bool lead))).trans hb).setCell (Nat.le_refl _) _
  clear hg hb
  go_wp2_with fail
  go_end0
  exact ⟨rfl, ao, n, c, HF.out, HB.out⟩

theorem zzfmt0x64 (w : World) (B : Nat) (F : Fl) (v : Nat) (lead : Bool) (hv : v < 18446744073709551616) (hG : Got w B F none 0 0 []) (h1 : 0 ≤ F.wid) (h2 : F.wid ≤ 65536) :
    Calls Edmg.prog 10 #[.pointer (some ⟨B, 0, none⟩), .int .u64 v, .bool lead] w fun e w' => e = .returned (.tuple #[]) ∧
      ∃ ao n c, Got w' B F ao n c (fmtOut { F with sh := lead } v) ∧ Below B w w' := by
  have HC : Hid (Calls Edmg.prog 17 #[.pointer (some ⟨B, 0, none⟩), .int .u64 v, .bool lead] w fun e w' => e = .returned (.tuple #[]) ∧
      ∃ ao n c, Got w' B F ao n c (fmtOut { F with sh := lead } v) ∧ Below B w w') := fmt0x64 w B F v lead hv hG h1 h2
  clear hG hv h1 h2
  go_enter Edmg.func10, Edmg.ntmps10
  go_wp2_with fail
  refine HC.out.mono ?_
  rintro e w2 ⟨rfl, hx⟩
  go_wp2_with fail
  go_end0
  exact ⟨rfl, hx⟩

theorem Got.form {w : World} {B : Nat} {F : Fl} {ao : Option Addr} {n c : Nat} {bs : List UInt8} (h : Got w B F ao n c bs) (h0 : bs ≠ []) : ∃ g, ao = some ⟨g, 0, none⟩ := by
  rcases h.own.2 with ⟨hv, e⟩ | ⟨g, cap, cur, hv, _⟩
  · have := h.len
    exact absurd (List.length_eq_zero_iff.1 (by omega)) h0
  · exact ⟨g, by simp at hv; exact hv.1⟩

/-- ZZbuf reads the gathered text. -/
theorem zzbuf (w : World) (B : Nat) (F : Fl) (ao : Option Addr) (n c : Nat) (bs : List UInt8) (h : Got w B F ao n c bs) (h0 : bs ≠ []) :
    Calls Edmg.prog 11 #[.pointer (some ⟨B, 0, none⟩)] w fun e w' => e = .returned (.string ⟨bs.toArray⟩) ∧ w = w' := by
  obtain ⟨g, rfl⟩ := h.form h0
  exact bufString w B g n c bs h.pr.c0 h.own h.len

theorem numOut_ne (F : Fl) (wid v : Nat) : numOut F wid v ≠ [] := fun h => by
  have h1 := congrArg List.length h
  have h2 := (hexD_len v).1
  unfold numOut at h1
  simp only [List.length_append, List.length_nil] at h1
  omega
theorem fmtOut_ne (F : Fl) (v : Nat) : fmtOut F v ≠ [] := fun h => by
  unfold fmtOut padOut at h
  split at h
  · exact numOut_ne _ _ _ (List.append_eq_nil_iff.1 h).1
  · exact numOut_ne _ _ _ (List.append_eq_nil_iff.1 h).2

end Go.Proofs.YoedmwDoor
