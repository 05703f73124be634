/-
  THE PROOF OF 'Rows.FnFmt0x64WholeCardSaid': the row's statement out of the walk (YoedmwDoorWhole), then the tied card.
-/
import Derived.Test.YoedmwDoorRows
import Derived.Test.YoedmwDoorCards
import Derived.Test.YoedmwDoorTie
import Derived.Test.YoedmwDoorLaid
import Derived.Test.YoedmwDoorWhole
import Derived.SevenTiedAt
namespace Go.Proofs.YoedmwDoor.fnFmt0x64Whole
open Go.ChangeShapes Go.WideShapes Go.ChangeAt Go.RowKit

set_option maxRecDepth 100000 in
/-- THE WALK, at every input. -/
theorem walk (w : World) (v : Nat) (lead sb wp : Bool) (x : Int) (mi ze : Bool) (hv : v < 18446744073709551616) (h2 : 2 ≤ w.heap.size) (hmx : w.cell? ⟨0, 0, none⟩ = some (.int .i64 2147483647)) :
    Calls Edmg.prog 3 #[.int .u64 v, .bool lead, .bool sb, .bool wp, .int .i64 x, .bool mi, .bool ze] w fun e w' => e = .returned (.bool true) ∧ Below w.heap.size w w' := by
  by_cases hneg : x < 0
  · clear hv hmx
    go_enter Edmg.func3, Edmg.ntmps3
    go_wp2
    go_ret
    exact ⟨rfl, Below.refl _ _⟩
  · by_cases hbig : 65536 < x
    · have hd1 : decide (x < 0) = false := by rw [decide_eq_false_iff_not]; exact hneg
      clear hv hmx
      go_enter Edmg.func3, Edmg.ntmps3
      go_wp2
      go_ret
      exact ⟨rfl, Below.refl _ _⟩
    · by_cases hzm : ze = false ∨ mi = false
      · obtain ⟨wid, rfl⟩ := Int.eq_ofNat_of_zero_le (show 0 ≤ x by omega)
        exact whole_walk w v lead sb wp wid mi ze hv (by omega) hzm h2 hmx
      · have hz : ze = true := by
          cases ze
          · exact absurd (Or.inl rfl) hzm
          · rfl
        have hm : mi = true := by
          cases mi
          · exact absurd (Or.inr rfl) hzm
          · rfl
        subst hz hm
        have hd1 : decide (x < 0) = false := by rw [decide_eq_false_iff_not]; exact hneg
        have hd2 : decide (65536 < x) = false := by rw [decide_eq_false_iff_not]; exact hbig
        clear hv hmx hzm
        go_enter Edmg.func3, Edmg.ntmps3
        go_wp2
        go_ret
        exact ⟨rfl, Below.refl _ _⟩

set_option maxRecDepth 100000 in
theorem lifted (os : Os) (started : os.Started) (H : Type) (enc : TypeId × Value → H) :
    ReturnsInHanded {} Edmg.checked os 3 .any (fun w args => (Rows.fnFmt0x64WholeSpec.pre enc Edmg.prog Edmg.f3 [] false w args ∧ laidMetH Edmg.prog laid2 w) ∧ sizedMet enc Edmg.prog Edmg.f3 (OpenSpec.ofChange Rows.fnFmt0x64WholeSpec) false w args)
      (Rows.fnFmt0x64WholeSpec.post enc Edmg.prog Edmg.f3 false true false false) := by
  refine returnsInHanded_of_change_and (C := Edmg.checked) (X := fun w _ => laidMetH Edmg.prog laid2 w) (fun _ _ _ hh h => h.of_heap hh) own started (by kernel_rfl) Edmg.func3
    (ChangeSpec.witness_shaped (enc := enc) (C := Edmg.checked) (os := os) (X := fun w _ => laidMetH Edmg.prog laid2 w) false (World.doorLaid Edmg.prog 400 os) #[.int .u64 0, .bool false, .bool false, .bool false, .int .i64 0, .bool false, .bool false] 8 rfl (World.shaped_of_RefB (by kernel_rfl) (by kernel_rfl)) (by kernel_rfl) (by kernel_rfl) (by kernel_rfl) (door_met os _)) ?_
  intro W base args ds gs before hval0 hW _ _ hL _
  have hval : ∀ (j : Nat) t v, Edmg.f3.params[j]? = some t → args[j]? = some v → Value.okWide Edmg.prog W .any base t v := hval0
  have hW' := hW
  obtain ⟨p, q, hA0, hV, rfl, _, _⟩ := hW
  have hA : DataW.TrodAll enc Edmg.prog W 0 (fun _ => true) true Edmg.f3.params.toList args.toList ds p := hA0
  rw [Edmg.params3] at hA hval
  obtain ⟨v0, vs0, d0, ds0, p0, q0, hargs, rfl, rfl, h0, r0⟩ := trodAll_cons hA
  obtain ⟨v1, vs1, d1, ds1, p1, q1, rfl, rfl, rfl, h1, r1⟩ := trodAll_cons r0
  obtain ⟨v2, vs2, d2, ds2, p2, q2, rfl, rfl, rfl, h2, r2⟩ := trodAll_cons r1
  obtain ⟨v3, vs3, d3, ds3, p3, q3, rfl, rfl, rfl, h3, r3⟩ := trodAll_cons r2
  obtain ⟨v4, vs4, d4, ds4, p4, q4, rfl, rfl, rfl, h4, r4⟩ := trodAll_cons r3
  obtain ⟨v5, vs5, d5, ds5, p5, q5, rfl, rfl, rfl, h5, r5⟩ := trodAll_cons r4
  obtain ⟨v6, vs6, d6, ds6, p6, q6, rfl, rfl, rfl, h6, r6⟩ := trodAll_cons r5
  obtain ⟨rfl, rfl, rfl⟩ := trodAll_nil r6
  obtain rfl : args = #[v0, v1, v2, v3, v4, v5, v6] := by cases args; simp_all
  obtain ⟨x, rfl, rfl, rfl, wx⟩ := open_int Edmg.underlying22 (hval 0 22 v0 rfl rfl) h0
  obtain ⟨lead, rfl, rfl, rfl⟩ := open_bool Edmg.underlying4 (hval 1 4 v1 rfl rfl) h1
  obtain ⟨sb, rfl, rfl, rfl⟩ := open_bool Edmg.underlying4 (hval 2 4 v2 rfl rfl) h2
  obtain ⟨wp, rfl, rfl, rfl⟩ := open_bool Edmg.underlying4 (hval 3 4 v3 rfl rfl) h3
  obtain ⟨wid, rfl, rfl, rfl, wwid⟩ := open_int Edmg.underlying3 (hval 4 3 v4 rfl rfl) h4
  obtain ⟨mi, rfl, rfl, rfl⟩ := open_bool Edmg.underlying4 (hval 5 4 v5 rfl rfl) h5
  obtain ⟨ze, rfl, rfl, rfl⟩ := open_bool Edmg.underlying4 (hval 6 4 v6 rfl rfl) h6
  have hx : 0 ≤ x ∧ x ≤ 18446744073709551615 := by simpa [Lit.wf, IntKind.min, IntKind.max, IntKind.signed, IntKind.bits] using wx
  obtain ⟨v, rfl⟩ := Int.eq_ofNat_of_zero_le hx.1
  obtain ⟨hsz, hmx⟩ := of_laid hL
  clear hA0 hval0
  simp only [List.append_nil, List.nil_append] at hW'
  refine (walk W v lead sb wp wid mi ze (by omega) hsz hmx).mono fun e W' ⟨he, hb⟩ => ?_
  subst he
  rcases gs with _ | ⟨g1, _ | ⟨g2, _ | ⟨g3, gs⟩⟩⟩
  · exact hV.elim
  · obtain ⟨_, _, _, _, _, _, _, _, _, _, hs, _⟩ := hV
    exact hs.elim
  · exact ⟨_, rfl, _, _, _, [], [], q, hW', trodAll_mk1 (shut_bool Edmg.underlying4 _),
      trodAll_cons_mk (shut_int Edmg.underlying22 wx) (trodAll_cons_mk (shut_bool Edmg.underlying4 _) (trodAll_cons_mk (shut_bool Edmg.underlying4 _) (trodAll_cons_mk (shut_bool Edmg.underlying4 _)
        (trodAll_cons_mk (shut_int Edmg.underlying3 wwid) (trodAll_cons_mk (shut_bool Edmg.underlying4 _) (trodAll_cons_mk (shut_bool Edmg.underlying4 _) trodAll_mk0)))))),
      hb.trodVars laidOut (by kernel_rfl) hV, hb.frame _, fun h => by cases h⟩
  · obtain ⟨_, _, _, _, _, _, _, _, _, _, hs, _⟩ := hV
    obtain ⟨_, _, _, _, _, _, _, _, _, _, hs, _⟩ := hs
    exact hs.elim

theorem holds : Rows.FnFmt0x64WholeSaid :=
  OpenClaim.holds_of_wide 3 Edmg.f3 rfl rfl rfl rfl rfl rfl rfl ⟨rfl, rfl, rfl, rfl, rfl⟩ rfl rfl rfl rfl rfl (by kernel_rfl) Edmg.func3 (by kernel_rfl)
    (of_decide_eq_true (by kernel_rfl)) (by unfold Func.isWrapper; first | (rw [if_pos (by decide +kernel)]; kernel_rfl) | (rw [if_neg (by decide +kernel)]; exact ⟨rfl, rfl⟩))
    (fun os started H enc _ => lifted os started H enc)

/-- THE CARD. -/
theorem proved : Rows.FnFmt0x64WholeCardSaid :=
  Claim7.holds_tied_plain_at .later [] [.called, .data] true (true, "dd79e352b64981fdc844139093d6470b9a065ed28ac5c1fdd37034db6a5fa294") false
    holds (fun _ h => by cases h) (by kernel_rfl) (fun _ h => by cases h) fnFmt0x64Whole_row_tie rfl ⟨rfl, rfl⟩ (by kernel_rfl) rfl
    (fun f fn hf hfn => by
      obtain rfl : f = 3 := Option.some.inj ((show Edmg.prog.funcNamed Rows.fnFmt0x64WholeRow.func = some 3 by kernel_rfl).symm.trans hf) |>.symm
      obtain rfl : fn = Edmg.f3 := (Option.some.inj (Edmg.func3.symm.trans hfn)).symm
      exact ⟨by kernel_rfl, fun j t ht => by
        rw [Edmg.params3] at ht
        have hm : t ∈ [22, 4, 4, 4, 3, 4, 4] := by simpa using Array.mem_of_getElem? ht
        have hall : ([22, 4, 4, 4, 3, 4, 4].all fun u => !Edmg.prog.wantsStandIn u) = true := by kernel_rfl
        exact (show Edmg.prog.wantsStandIn t = false by simpa using List.all_eq_true.1 hall t hm)⟩)
    (by kernel_rfl)
#print axioms proved
end Go.Proofs.YoedmwDoor.fnFmt0x64Whole
