/-
  THE SHELL OF A PROOF OF 'Rows.FnReadOffsetRoundTripSaid' ('example.com/fixity/fixity/zzlaws_internal_formats_b1.FnReadOffsetRoundTrip'), WRITTEN BY PROGRAM (proof-skeleton.mjs) off the guide's own print for that function. Not trusted: it is checked.
  THE WALK (step 1) is filled by hand.
-/
import Derived.Test.Qxb6603915aRows
import Derived.Test.Qxb6603915aWalks2
import Derived.WalkKit
import Derived.ProofKit
import Derived.OpenShut
import Derived.ShutString
namespace Go.Proofs.Qxb6603915a.fnReadOffsetRoundTrip
open Go.ChangeShapes Go.WideShapes Go.ChangeAt Go.RowKit
open Go.ChangeMaps (open_string shut_string)
set_option linter.unusedVariables false      -- a walk need not use every 'w<i>' (that an integer argument fits its kind)

theorem own : ownKnob Try.prog.godebug = none := by kernel_rfl

/-! ### STEP 1: THE WALK: the Go text returns true -/
set_option maxHeartbeats 1000000 in
theorem walk (a0 : Int) (w0 : (Lit.int .i64 a0).wf = true) (w : World) :
    Calls Try.prog 5 #[.int .i64 a0] w fun e w' => e = .returned (.bool true) ∧ Grown w w' := by
  by_cases c1 : a0 < -86340
  · go_enter Try.func5, Try.ntmps5
    go_wp2
    go_ret
    exact ⟨rfl, Grown.refl _⟩
  · by_cases c2 : 86340 < a0
    · go_enter Try.func5, Try.ntmps5
      go_wp2
      go_ret
      exact ⟨rfl, Grown.refl _⟩
    · by_cases c3 : 0 ≤ a0
      · by_cases c4 : a0 % 60 = 0
        · obtain ⟨h, m, hh, hm, e0⟩ : ∃ h m : Nat, h ≤ 23 ∧ m ≤ 59 ∧ a0 = h * 3600 + m * 60 := ⟨(a0 / 3600).toNat, (a0 % 3600 / 60).toNat, by omega, by omega, by omega⟩
          have eh : a0 / 3600 = h := by omega
          have em : a0 % 3600 / 60 = m := by omega
          have hz : ((h : Int) * 3600 + m * 60 == a0) = true := by simp; omega
          have hd : decide (a0 < 0) = false := by simp; omega
          clear e0
          go_enter Try.func5, Try.ntmps5
          go_wp2_with fail
          refine (render_plus h m hh hm _).mono ?_
          rintro e w1 ⟨rfl, hg⟩
          go_wp2_with fail
          refine (zzread_plus h m hh hm _).mono ?_
          rintro e w2 ⟨rfl, rfl⟩
          go_wp2
          go_ret
          exact ⟨rfl, hg⟩
        · go_enter Try.func5, Try.ntmps5
          go_wp2
          go_ret
          exact ⟨rfl, Grown.refl _⟩
      · have hd : decide (a0 < 0) = true := by simp; omega
        have tm : ∀ k : Int, a0.tmod k = -((-a0) % k) := fun k => by
          have e : a0 = -(-a0) := by omega
          rw [e, Int.neg_tmod, Int.tmod_eq_emod_of_nonneg (by omega)]
          simp
        have td : ∀ k : Int, a0.tdiv k = -((-a0) / k) := fun k => by
          have e : a0 = -(-a0) := by omega
          rw [e, Int.neg_tdiv, Int.tdiv_eq_ediv_of_nonneg (by omega)]
          simp
        by_cases c4 : (-a0) % 60 = 0
        · obtain ⟨h, m, hh, hm, e0⟩ : ∃ h m : Nat, h ≤ 23 ∧ m ≤ 59 ∧ a0 = -(h * 3600 + m * 60) := ⟨((-a0) / 3600).toNat, ((-a0) % 3600 / 60).toNat, by omega, by omega, by omega⟩
          have ht : (a0.tmod 60 != 0) = false := by rw [tm, c4]; rfl
          have q1 : wrap64 (-a0.tdiv 3600) = h := by rw [td]; unfold wrap64; omega
          have q2 : wrap64 (-(a0.tmod 3600).tdiv 60) = m := by
            rw [tm, Int.neg_tdiv, Int.tdiv_eq_ediv_of_nonneg (by omega)]
            unfold wrap64
            omega
          have hz : (-((h : Int) * 3600 + m * 60) == a0) = true := by simp; omega
          clear e0 c4 tm td
          go_enter Try.func5, Try.ntmps5
          go_wp2_with fail
          refine (render_minus h m hh hm _).mono ?_
          rintro e w1 ⟨rfl, hg⟩
          go_wp2_with fail
          refine (zzread_minus h m hh hm _).mono ?_
          rintro e w2 ⟨rfl, rfl⟩
          go_wp2
          go_ret
          exact ⟨rfl, hg⟩
        · have ht : (a0.tmod 60 != 0) = true := by rw [tm]; simp; omega
          clear c4 tm td
          go_enter Try.func5, Try.ntmps5
          go_wp2
          go_ret
          exact ⟨rfl, Grown.refl _⟩

/-! ### THE ROW's STEP: WRITTEN OUT: LEAVE IT -/
set_option maxRecDepth 100000 in
theorem lifted (os : Os) (started : os.Started) (H : Type) (enc : TypeId × Value → H) :
    ReturnsInHanded {} Try.checked os 5 .any (Rows.fnReadOffsetRoundTripSpec.pre6 enc Try.prog Try.f5 Rows.fnReadOffsetRoundTripRow.domain false) (Rows.fnReadOffsetRoundTripSpec.post enc Try.prog Try.f5 false true false false) := by
  refine returnsInHanded_of_change (C := Try.checked) own started (by kernel_rfl) Try.func5
    (ChangeSpec.witness6 (enc := enc) (C := Try.checked) false ⟨#[], #[.int .i64 0], []⟩ 8 (by kernel_rfl) (by kernel_rfl) (by kernel_rfl) (by kernel_rfl)) ?_
  intro W base args ds gs before hval0 hW hcnd _
  have hval : ∀ (j : Nat) t v, Try.f5.params[j]? = some t → args[j]? = some v → Value.okWide Try.prog W .any base t v := hval0
  have hW' := hW
  obtain ⟨p, q, hA0, hV, rfl, hfz, hnd⟩ := hW
  have hA : DataW.TrodAll enc Try.prog W 0 (fun _ => true) true Try.f5.params.toList args.toList ds p := hA0
  rw [Try.params5] at hA hval
  obtain ⟨v0, vs0, d0, ds0, p0, q0, hargs, rfl, rfl, h0, r0⟩ := trodAll_cons hA
  obtain ⟨rfl, rfl, rfl⟩ := trodAll_nil r0
  obtain rfl : args = #[v0] := by cases args; simp_all
  obtain ⟨rfl, rfl⟩ := trodVars_none hV
  obtain ⟨a0, rfl, rfl, rfl, w0⟩ := open_int Try.underlying3 (hval 0 3 v0 rfl rfl) h0
  clear hA0 hval0
  simp only [List.append_nil] at hW'
  refine (walk a0 w0 W).mono fun e W' ⟨he, hg⟩ => ?_
  subst he
  exact ⟨_, rfl, post_of_same (pa := []) (pv := []) hW' (fun _ _ _ => (trodAll_cons_mk (shut_bool Try.underlying4 _) trodAll_mk0)) (fun sp _ => (trodAll_cons_mk (shut_int Try.underlying3 w0) trodAll_mk0)) (fun _ _ => rfl) rfl
    (hg.frame _) hg.2.1 (ok_one (by kernel_rfl) rfl (okWide_bool_mk Try.underlying4 _))⟩

theorem over : Rows.fnReadOffsetRoundTripRow.holds Try.pinned (OpenSpec.ofChange Rows.fnReadOffsetRoundTripSpec) :=
  OpenClaim.holds_of_wide 5 Try.f5 rfl rfl rfl rfl rfl rfl rfl ⟨rfl, rfl, rfl, rfl, rfl⟩ rfl rfl rfl rfl rfl (by kernel_rfl) Try.func5 (by kernel_rfl)
    (of_decide_eq_true (by kernel_rfl)) (by unfold Func.isWrapper; first | (rw [if_pos (by decide +kernel)]; kernel_rfl) | (rw [if_neg (by decide +kernel)]; exact ⟨rfl, rfl⟩))
    (fun os started H enc _ => lifted os started H enc)

/-- ████ THE STATEMENT ████ -/
theorem proved : Rows.FnReadOffsetRoundTripSaid :=
  over
end Go.Proofs.Qxb6603915a.fnReadOffsetRoundTrip
