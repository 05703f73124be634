/-
  THE PROOF OF 'Rows.FnParsenumWholeSpecSaid' ('github.com/d5/tengo/v2/zzlaws_root_b3.FnParsenumWholeSpec'). The frame was written by the kit (proof-skeleton.mjs).
  The frame is the guide's template; the walk is closed by YoedmwWhole and YoedmwWhole2.
-/
import Derived.Test.YoedmwRows
import Derived.Test.YoedmwWhole2
import Derived.WalkKit
import Derived.ProofKit
import Derived.OpenShut
import Derived.ShutString
namespace Go.Proofs.Yoedmw.fnParsenumWholeSpec
open Go.ChangeShapes Go.WideShapes Go.ChangeAt Go.RowKit
open Go.ChangeMaps (open_string shut_string)
set_option linter.unusedVariables false      -- a walk need not use every 'w<i>' (that an integer argument fits its kind)

theorem own : ownKnob Edmg.prog.godebug = none := by kernel_rfl

/-! ### STEP 1: THE WALK: the Go text returns true. 'Grown w w'': the world has at most new blocks (Derived/RowKit3.lean). Part the cases AHEAD of 'go_enter' where a test parts the walk; take each callee by a contract of your own. -/
set_option maxRecDepth 100000 in
theorem walk (a0 : ByteArray) (a1 : Int) (a2 : Int) (w0 : a0.size ≤ maxLen) (w1 : (Lit.int .i64 a1).wf = true) (w2 : (Lit.int .i64 a2).wf = true) (w : World) :
    Calls Edmg.prog 3 #[.string a0, .int .i64 a1, .int .i64 a2] w fun e w' => e = .returned (.bool true) ∧ Grown w w' := by
  by_cases hlen : a0.size ≤ 1048576
  · by_cases hlt : a1 < a2
    · by_cases hin : 0 ≤ a1 ∧ a2 ≤ a0.size
      · -- a start and an end inside the text
        obtain ⟨a, rfl⟩ := Int.eq_ofNat_of_zero_le hin.1
        obtain ⟨b, rfl⟩ := Int.eq_ofNat_of_zero_le (show 0 ≤ a2 by omega)
        have hab : a < b := by omega
        have hb : b ≤ a0.size := by omega
        have hR := Plain.isRun_run a0 a b (by omega) hb
        generalize Plain.run a0.data.toList a b = R at hR
        by_cases h0 : 0 < R.length
        · by_cases hv : 1000000 < Plain.val R.dropLast
          · exact whole_big a0 a b R _ w hab hb hlen ⟨hR, rfl⟩ hv
          · exact whole_fit a0 a b R _ w hab hb hlen ⟨hR, rfl⟩ (by omega) h0
        · obtain rfl : R = [] := List.length_eq_zero_iff.1 (by omega)
          exact whole_empty a0 a b w hab hb hlen hR
      · -- outside: true at once
        have hd1 : decide (a1 < a2) = true := by simpa using hlt
        by_cases hneg : a1 < 0
        · go_enter Edmg.func3, Edmg.ntmps3
          go_wp2_with (go_at_call 5; refine (bytesWhole_yes _ _ _ _ (by omega)).mono ?_; rintro e w' ⟨rfl, rfl⟩)
          go_ret
          exact ⟨rfl, Grown.refl _⟩
        · have hbig : decide ((a0.size : Int) < a2) = true := by rw [decide_eq_true_eq]; omega
          have hd2 : decide (a1 < 0) = false := by rw [decide_eq_false_iff_not]; exact hneg
          go_enter Edmg.func3, Edmg.ntmps3
          go_wp2_with (go_at_call 5; refine (bytesWhole_yes _ _ _ _ (by omega)).mono ?_; rintro e w' ⟨rfl, rfl⟩)
          go_ret
          exact ⟨rfl, Grown.refl _⟩
    · -- nothing between start and end
      have hd1 : decide (a1 < a2) = false := by simpa using hlt
      go_enter Edmg.func3, Edmg.ntmps3
      go_wp2_with (first
        | (go_at_call 5; refine (bytesWhole_yes _ _ _ _ (by omega)).mono ?_; rintro e w' ⟨rfl, rfl⟩)
        | (go_at_call 6; refine (zzparsenum_none _ _ _ _ (by omega)).mono ?_; rintro e w' ⟨rfl, rfl⟩))
      go_ret
      exact ⟨rfl, Grown.refl _⟩
  · -- too long: true at once
    go_enter Edmg.func3, Edmg.ntmps3
    go_wp2_with (go_at_call 5; refine (bytesWhole_no _ _ _ _ (by omega)).mono ?_; rintro e w' ⟨rfl, rfl⟩)
    go_ret
    exact ⟨rfl, Grown.refl _⟩

/-! ### THE ROW's STEP: WRITTEN OUT: LEAVE IT -/
set_option maxRecDepth 100000 in
theorem lifted (os : Os) (started : os.Started) (H : Type) (enc : TypeId × Value → H) :
    ReturnsInHanded {} Edmg.checked os 3 .any (Rows.fnParsenumWholeSpecSpec.pre6 enc Edmg.prog Edmg.f3 Rows.fnParsenumWholeSpecRow.domain false) (Rows.fnParsenumWholeSpecSpec.post enc Edmg.prog Edmg.f3 false true false false) := by
  refine returnsInHanded_of_change (C := Edmg.checked) own started (by kernel_rfl) Edmg.func3
    (ChangeSpec.witness6 (enc := enc) (C := Edmg.checked) false ⟨#[], #[.string ByteArray.empty, .int .i64 0, .int .i64 0], []⟩ 8 (by kernel_rfl) (by kernel_rfl) (by kernel_rfl) (by kernel_rfl)) ?_
  intro W base args ds gs before hval0 hW hcnd _
  have hval : ∀ (j : Nat) t v, Edmg.f3.params[j]? = some t → args[j]? = some v → Value.okWide Edmg.prog W .any base t v := hval0
  have hW' := hW
  obtain ⟨p, q, hA0, hV, rfl, hfz, hnd⟩ := hW
  have hA : DataW.TrodAll enc Edmg.prog W 0 (fun _ => true) true Edmg.f3.params.toList args.toList ds p := hA0
  rw [Edmg.params3] at hA hval
  obtain ⟨v0, vs0, d0, ds0, p0, q0, hargs, rfl, rfl, h0, r0⟩ := trodAll_cons hA
  obtain ⟨v1, vs1, d1, ds1, p1, q1, rfl, rfl, rfl, h1, r1⟩ := trodAll_cons r0
  obtain ⟨v2, vs2, d2, ds2, p2, q2, rfl, rfl, rfl, h2, r2⟩ := trodAll_cons r1
  obtain ⟨rfl, rfl, rfl⟩ := trodAll_nil r2
  obtain rfl : args = #[v0, v1, v2] := by cases args; simp_all
  obtain ⟨rfl, rfl⟩ := trodVars_none hV
  obtain ⟨a0, rfl, rfl, rfl, w0⟩ := open_string Edmg.underlying9 (hval 0 9 v0 rfl rfl) h0
  obtain ⟨a1, rfl, rfl, rfl, w1⟩ := open_int Edmg.underlying3 (hval 1 3 v1 rfl rfl) h1
  obtain ⟨a2, rfl, rfl, rfl, w2⟩ := open_int Edmg.underlying3 (hval 2 3 v2 rfl rfl) h2
  clear hA0 hval0
  simp only [List.append_nil] at hW'
  refine (walk a0 a1 a2 w0 w1 w2 W).mono fun e W' ⟨he, hg⟩ => ?_
  subst he
  exact ⟨_, rfl, post_of_same (pa := []) (pv := []) hW' (fun _ _ _ => (trodAll_cons_mk (shut_bool Edmg.underlying4 _) trodAll_mk0)) (fun sp _ => (trodAll_cons_mk (shut_string Edmg.underlying9 w0) (trodAll_cons_mk (shut_int Edmg.underlying3 w1) (trodAll_cons_mk (shut_int Edmg.underlying3 w2) trodAll_mk0)))) (fun _ _ => rfl) rfl
    (hg.frame _) hg.2.1 (ok_one (by kernel_rfl) rfl (okWide_bool_mk Edmg.underlying4 _))⟩

theorem over : Rows.fnParsenumWholeSpecRow.holds Edmg.pinned (OpenSpec.ofChange Rows.fnParsenumWholeSpecSpec) :=
  OpenClaim.holds_of_wide 3 Edmg.f3 rfl rfl rfl rfl rfl rfl rfl ⟨rfl, rfl, rfl, rfl, rfl⟩ rfl rfl rfl rfl rfl (by kernel_rfl) Edmg.func3 (by kernel_rfl)
    (of_decide_eq_true (by kernel_rfl)) (by unfold Func.isWrapper; first | (rw [if_pos (by decide +kernel)]; kernel_rfl) | (rw [if_neg (by decide +kernel)]; exact ⟨rfl, rfl⟩))
    (fun os started H enc _ => lifted os started H enc)

/-- ████ THE STATEMENT ████ -/
theorem proved : Rows.FnParsenumWholeSpecSaid :=
  over
#print axioms proved
end Go.Proofs.Yoedmw.fnParsenumWholeSpec
