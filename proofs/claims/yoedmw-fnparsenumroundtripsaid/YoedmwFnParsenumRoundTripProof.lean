/-
  THE PROOF OF 'Rows.FnParsenumRoundTripSaid' ('github.com/d5/tengo/v2/zzlaws_root_b3.FnParsenumRoundTrip'). The frame was written by the kit (proof-skeleton.mjs).
  The frame is the guide's template; the walk is closed by YoedmwRound.
-/
import Derived.Test.YoedmwRows
import Derived.Test.YoedmwRound
import Derived.WalkKit
import Derived.ProofKit
import Derived.OpenShut
import Derived.ShutString
namespace Go.Proofs.Yoedmw.fnParsenumRoundTrip
open Go.ChangeShapes Go.WideShapes Go.ChangeAt Go.RowKit
open Go.ChangeMaps (open_string shut_string)
set_option linter.unusedVariables false      -- a walk need not use every 'w<i>' (that an integer argument fits its kind)

theorem own : ownKnob Edmg.prog.godebug = none := by kernel_rfl

/-! ### STEP 1: THE WALK: the Go text returns true. 'Grown w w'': the world has at most new blocks (Derived/RowKit3.lean). Part the cases AHEAD of 'go_enter' where a test parts the walk; take each callee by a contract of your own. -/
set_option maxRecDepth 100000 in
theorem walk (a0 : ByteArray) (a1 : Int) (a2 : ByteArray) (w0 : a0.size ≤ maxLen) (w1 : (Lit.int .i64 a1).wf = true) (w2 : a2.size ≤ maxLen) (w : World) :
    Calls Edmg.prog 4 #[.string a0, .int .i64 a1, .string a2] w fun e w' => e = .returned (.bool true) ∧ Grown w w' := by
  unfold maxLen at w0 w2
  by_cases hst : (a0.size : Int) + (a2.size : Int) ≤ 1048576
  · by_cases hn : 0 ≤ a1 ∧ a1 ≤ 1073741824
    · by_cases hdig : ∃ h : 0 < a2.size, Plain.dig a2[0] = true
      · -- the tail opens with a digit: true at once
        obtain ⟨h0, hd⟩ := hdig
        simp only [Plain.dig, decide_eq_true_eq] at hd
        go_enter Edmg.func4, Edmg.ntmps4
        go_wp2_with (first
          | (go_at_call 9; refine (bytesRound_yes _ _ _ _ (by omega)).mono ?_; rintro e w' ⟨rfl, rfl⟩)
          | (go_at_call 7; refine (isDigit_yes _ _ (by omega) (by omega)).mono ?_; rintro e w' ⟨rfl, rfl⟩))
        go_ret
        exact ⟨rfl, Grown.refl _⟩
      · obtain ⟨n, rfl⟩ := Int.eq_ofNat_of_zero_le hn.1
        refine round_in a0 a2 n w hst (by omega) (fun h => ?_)
        cases hb : Plain.dig a2[0] with
        | false => rfl
        | true => exact absurd ⟨h, hb⟩ hdig
    · -- n is out of the law's range: true at once
      by_cases hneg : a1 < 0
      · go_enter Edmg.func4, Edmg.ntmps4
        go_wp2_with (go_at_call 9; refine (bytesRound_yes _ _ _ _ (by omega)).mono ?_; rintro e w' ⟨rfl, rfl⟩)
        go_ret
        exact ⟨rfl, Grown.refl _⟩
      · have hbig : decide (1073741824 < a1) = true := by rw [decide_eq_true_eq]; omega
        have hd2 : decide (a1 < 0) = false := by rw [decide_eq_false_iff_not]; exact hneg
        go_enter Edmg.func4, Edmg.ntmps4
        go_wp2_with (go_at_call 9; refine (bytesRound_yes _ _ _ _ (by omega)).mono ?_; rintro e w' ⟨rfl, rfl⟩)
        go_ret
        exact ⟨rfl, Grown.refl _⟩
  · -- too long: true at once
    go_enter Edmg.func4, Edmg.ntmps4
    go_wp2_with (go_at_call 9; refine (bytesRound_no _ _ _ _ w0 w2 (by omega)).mono ?_; rintro e w' ⟨rfl, rfl⟩)
    go_ret
    exact ⟨rfl, Grown.refl _⟩

/-! ### THE ROW's STEP: WRITTEN OUT: LEAVE IT -/
set_option maxRecDepth 100000 in
theorem lifted (os : Os) (started : os.Started) (H : Type) (enc : TypeId × Value → H) :
    ReturnsInHanded {} Edmg.checked os 4 .any (Rows.fnParsenumRoundTripSpec.pre6 enc Edmg.prog Edmg.f4 Rows.fnParsenumRoundTripRow.domain false) (Rows.fnParsenumRoundTripSpec.post enc Edmg.prog Edmg.f4 false true false false) := by
  refine returnsInHanded_of_change (C := Edmg.checked) own started (by kernel_rfl) Edmg.func4
    (ChangeSpec.witness6 (enc := enc) (C := Edmg.checked) false ⟨#[], #[.string ByteArray.empty, .int .i64 0, .string ByteArray.empty], []⟩ 8 (by kernel_rfl) (by kernel_rfl) (by kernel_rfl) (by kernel_rfl)) ?_
  intro W base args ds gs before hval0 hW hcnd _
  have hval : ∀ (j : Nat) t v, Edmg.f4.params[j]? = some t → args[j]? = some v → Value.okWide Edmg.prog W .any base t v := hval0
  have hW' := hW
  obtain ⟨p, q, hA0, hV, rfl, hfz, hnd⟩ := hW
  have hA : DataW.TrodAll enc Edmg.prog W 0 (fun _ => true) true Edmg.f4.params.toList args.toList ds p := hA0
  rw [Edmg.params4] at hA hval
  obtain ⟨v0, vs0, d0, ds0, p0, q0, hargs, rfl, rfl, h0, r0⟩ := trodAll_cons hA
  obtain ⟨v1, vs1, d1, ds1, p1, q1, rfl, rfl, rfl, h1, r1⟩ := trodAll_cons r0
  obtain ⟨v2, vs2, d2, ds2, p2, q2, rfl, rfl, rfl, h2, r2⟩ := trodAll_cons r1
  obtain ⟨rfl, rfl, rfl⟩ := trodAll_nil r2
  obtain rfl : args = #[v0, v1, v2] := by cases args; simp_all
  obtain ⟨rfl, rfl⟩ := trodVars_none hV
  obtain ⟨a0, rfl, rfl, rfl, w0⟩ := open_string Edmg.underlying9 (hval 0 9 v0 rfl rfl) h0
  obtain ⟨a1, rfl, rfl, rfl, w1⟩ := open_int Edmg.underlying3 (hval 1 3 v1 rfl rfl) h1
  obtain ⟨a2, rfl, rfl, rfl, w2⟩ := open_string Edmg.underlying9 (hval 2 9 v2 rfl rfl) h2
  clear hA0 hval0
  simp only [List.append_nil] at hW'
  refine (walk a0 a1 a2 w0 w1 w2 W).mono fun e W' ⟨he, hg⟩ => ?_
  subst he
  exact ⟨_, rfl, post_of_same (pa := []) (pv := []) hW' (fun _ _ _ => (trodAll_cons_mk (shut_bool Edmg.underlying4 _) trodAll_mk0)) (fun sp _ => (trodAll_cons_mk (shut_string Edmg.underlying9 w0) (trodAll_cons_mk (shut_int Edmg.underlying3 w1) (trodAll_cons_mk (shut_string Edmg.underlying9 w2) trodAll_mk0)))) (fun _ _ => rfl) rfl
    (hg.frame _) hg.2.1 (ok_one (by kernel_rfl) rfl (okWide_bool_mk Edmg.underlying4 _))⟩

theorem over : Rows.fnParsenumRoundTripRow.holds Edmg.pinned (OpenSpec.ofChange Rows.fnParsenumRoundTripSpec) :=
  OpenClaim.holds_of_wide 4 Edmg.f4 rfl rfl rfl rfl rfl rfl rfl ⟨rfl, rfl, rfl, rfl, rfl⟩ rfl rfl rfl rfl rfl (by kernel_rfl) Edmg.func4 (by kernel_rfl)
    (of_decide_eq_true (by kernel_rfl)) (by unfold Func.isWrapper; first | (rw [if_pos (by decide +kernel)]; kernel_rfl) | (rw [if_neg (by decide +kernel)]; exact ⟨rfl, rfl⟩))
    (fun os started H enc _ => lifted os started H enc)

/-- ████ THE STATEMENT ████ -/
theorem proved : Rows.FnParsenumRoundTripSaid :=
  over
#print axioms proved
end Go.Proofs.Yoedmw.fnParsenumRoundTrip
