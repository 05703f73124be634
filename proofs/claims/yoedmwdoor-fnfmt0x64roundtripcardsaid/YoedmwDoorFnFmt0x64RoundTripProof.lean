/-
  THE PROOF OF 'Rows.FnFmt0x64RoundTripCardSaid': the row's statement out of the walk (YoedmwDoorRound), then the tied card.
-/
import Derived.Test.YoedmwDoorRows
import Derived.Test.YoedmwDoorCards
import Derived.Test.YoedmwDoorTie
import Derived.Test.YoedmwDoorLaid
import Derived.Test.YoedmwDoorRound
import Derived.SevenTiedAt
namespace Go.Proofs.YoedmwDoor.fnFmt0x64RoundTrip
open Go.ChangeShapes Go.WideShapes Go.ChangeAt Go.RowKit

set_option maxRecDepth 100000 in
theorem lifted (os : Os) (started : os.Started) (H : Type) (enc : TypeId × Value → H) :
    ReturnsInHanded {} Edmg.checked os 4 .any (fun w args => (Rows.fnFmt0x64RoundTripSpec.pre enc Edmg.prog Edmg.f4 [] false w args ∧ laidMetH Edmg.prog laid2 w) ∧ sizedMet enc Edmg.prog Edmg.f4 (OpenSpec.ofChange Rows.fnFmt0x64RoundTripSpec) false w args)
      (Rows.fnFmt0x64RoundTripSpec.post enc Edmg.prog Edmg.f4 false true false false) := by
  refine returnsInHanded_of_change_and (C := Edmg.checked) (X := fun w _ => laidMetH Edmg.prog laid2 w) (fun _ _ _ hh h => h.of_heap hh) own started (by kernel_rfl) Edmg.func4
    (ChangeSpec.witness_shaped (enc := enc) (C := Edmg.checked) (os := os) (X := fun w _ => laidMetH Edmg.prog laid2 w) false (World.doorLaid Edmg.prog 400 os) #[.int .u64 0, .bool false] 8 rfl (World.shaped_of_RefB (by kernel_rfl) (by kernel_rfl)) (by kernel_rfl) (by kernel_rfl) (by kernel_rfl) (door_met os _)) ?_
  intro W base args ds gs before hval0 hW _ _ hL _
  have hval : ∀ (j : Nat) t v, Edmg.f4.params[j]? = some t → args[j]? = some v → Value.okWide Edmg.prog W .any base t v := hval0
  have hW' := hW
  obtain ⟨p, q, hA0, hV, rfl, _, _⟩ := hW
  have hA : DataW.TrodAll enc Edmg.prog W 0 (fun _ => true) true Edmg.f4.params.toList args.toList ds p := hA0
  rw [Edmg.params4] at hA hval
  obtain ⟨v0, v1, d0, d1, p0, p1, rfl, rfl, rfl, h0, h1⟩ := trodAll_two hA
  obtain ⟨x, rfl, rfl, rfl, wx⟩ := open_int Edmg.underlying22 (hval 0 22 v0 rfl rfl) h0
  obtain ⟨sb, rfl, rfl, rfl⟩ := open_bool Edmg.underlying4 (hval 1 4 v1 rfl rfl) h1
  have hx : 0 ≤ x ∧ x ≤ 18446744073709551615 := by simpa [Lit.wf, IntKind.min, IntKind.max, IntKind.signed, IntKind.bits] using wx
  obtain ⟨v, rfl⟩ := Int.eq_ofNat_of_zero_le hx.1
  obtain ⟨hsz, hmx⟩ := of_laid hL
  clear hA0 hval0
  refine (round_walk W v sb (by omega) hsz hmx).mono fun e W' ⟨he, hb⟩ => ?_
  subst he
  rcases gs with _ | ⟨g1, _ | ⟨g2, _ | ⟨g3, gs⟩⟩⟩
  · exact hV.elim
  · obtain ⟨_, _, _, _, _, _, _, _, _, _, hs, _⟩ := hV
    exact hs.elim
  · exact ⟨_, rfl, _, _, _, [], [], q, hW', trodAll_mk1 (shut_bool Edmg.underlying4 _), trodAll_mk2 (shut_int Edmg.underlying22 wx) (shut_bool Edmg.underlying4 _), hb.trodVars laidOut (by kernel_rfl) hV, hb.frame _, fun h => by cases h⟩
  · obtain ⟨_, _, _, _, _, _, _, _, _, _, hs, _⟩ := hV
    obtain ⟨_, _, _, _, _, _, _, _, _, _, hs, _⟩ := hs
    exact hs.elim

theorem holds : Rows.FnFmt0x64RoundTripSaid :=
  OpenClaim.holds_of_wide 4 Edmg.f4 rfl rfl rfl rfl rfl rfl rfl ⟨rfl, rfl, rfl, rfl, rfl⟩ rfl rfl rfl rfl rfl (by kernel_rfl) Edmg.func4 (by kernel_rfl)
    (of_decide_eq_true (by kernel_rfl)) (by unfold Func.isWrapper; first | (rw [if_pos (by decide +kernel)]; kernel_rfl) | (rw [if_neg (by decide +kernel)]; exact ⟨rfl, rfl⟩))
    (fun os started H enc _ => lifted os started H enc)

/-- THE CARD. -/
theorem proved : Rows.FnFmt0x64RoundTripCardSaid :=
  Claim7.holds_tied_plain_at .later [] [.called, .data] true (true, "dd79e352b64981fdc844139093d6470b9a065ed28ac5c1fdd37034db6a5fa294") false
    holds (fun _ h => by cases h) (by kernel_rfl) (fun _ h => by cases h) fnFmt0x64RoundTrip_row_tie rfl ⟨rfl, rfl⟩ (by kernel_rfl) rfl
    (fun f fn hf hfn => by
      obtain rfl : f = 4 := Option.some.inj ((show Edmg.prog.funcNamed Rows.fnFmt0x64RoundTripRow.func = some 4 by kernel_rfl).symm.trans hf) |>.symm
      obtain rfl : fn = Edmg.f4 := (Option.some.inj (Edmg.func4.symm.trans hfn)).symm
      exact ⟨by kernel_rfl, fun j t ht => by
        rw [Edmg.params4] at ht
        have hm : t ∈ [22, 4] := by simpa using Array.mem_of_getElem? ht
        have hall : ([22, 4].all fun u => !Edmg.prog.wantsStandIn u) = true := by kernel_rfl
        exact (show Edmg.prog.wantsStandIn t = false by simpa using List.all_eq_true.1 hall t hm)⟩)
    (by kernel_rfl)
#print axioms proved
end Go.Proofs.YoedmwDoor.fnFmt0x64RoundTrip
