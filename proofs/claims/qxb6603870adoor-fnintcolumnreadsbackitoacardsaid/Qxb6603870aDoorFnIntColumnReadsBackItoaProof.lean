/-
  FnIntColumnReadsBackItoaCardSaid: THE ROW, out of the walk; AND THE TIED CARD.
-/
import Derived.Test.Qxb6603870aDoorTie
import Derived.Test.Qxb6603870aDoorCards
import Derived.Test.Qxb6603870aDoorLaid
import Derived.Test.Qxb6603870aDoorLaw2
import Derived.SevenTiedAt
import Derived.MakeChecks
namespace Go.Proofs.Qxb6603870aDoor.fnIntColumnReadsBackItoa
open Go Go.ChangeShapes Go.WideShapes Go.ChangeAt Go.RowKit
open Go.ChangeMaps (open_string shut_string)
set_option linter.unusedVariables false

set_option maxRecDepth 100000 in
theorem lifted (os : Os) (started : os.Started) (H : Type) (enc : TypeId × Value → H) :
    ReturnsInHanded {} Tryd.checked os 6 .any (fun w args => (Rows.fnIntColumnReadsBackItoaSpec.pre enc Tryd.prog Tryd.f6 [] false w args ∧ laidMetH Tryd.prog laid5 w) ∧ sizedMet enc Tryd.prog Tryd.f6 (OpenSpec.ofChange Rows.fnIntColumnReadsBackItoaSpec) false w args)
      (Rows.fnIntColumnReadsBackItoaSpec.post enc Tryd.prog Tryd.f6 false true false false) := by
  refine returnsInHanded_of_change_and (C := Tryd.checked) (X := fun w _ => laidMetH Tryd.prog laid5 w) (fun _ _ _ hh h => h.of_heap hh) own started (by kernel_rfl) Tryd.func6
    (ChangeSpec.witness_shaped (enc := enc) (C := Tryd.checked) (os := os) (X := fun w _ => laidMetH Tryd.prog laid5 w) false (World.doorLaid Tryd.prog 400 os) #[.string ByteArray.empty, .int .i64 0, .string ByteArray.empty, .int .i64 0] 8 rfl (World.shaped_of_RefB (by kernel_rfl) (by kernel_rfl)) (by kernel_rfl) (by kernel_rfl) (by kernel_rfl) (door_met os _)) ?_
  intro W base args ds gs before hval0 hW _ _ hL _
  have hval : ∀ (j : Nat) t v, Tryd.f6.params[j]? = some t → args[j]? = some v → Value.okWide Tryd.prog W .any base t v := hval0
  have hW' := hW
  obtain ⟨p, q, hA0, hV, rfl, hfz, hnd⟩ := hW
  have hA : DataW.TrodAll enc Tryd.prog W 0 (fun _ => true) true Tryd.f6.params.toList args.toList ds p := hA0
  rw [Tryd.params6] at hA hval
  obtain ⟨v0, v1, v2, v3, d0, d1, d2, d3, p0, p1, p2, p3, rfl, rfl, rfl, h0, h1, h2, h3⟩ := trodAll_four hA
  obtain ⟨s, rfl, rfl, rfl, ws⟩ := open_string Tryd.underlying9 (hval 0 9 v0 rfl rfl) h0
  obtain ⟨x, rfl, rfl, rfl, wx⟩ := open_int Tryd.underlying3 (hval 1 3 v1 rfl rfl) h1
  obtain ⟨t, rfl, rfl, rfl, wt⟩ := open_string Tryd.underlying9 (hval 2 9 v2 rfl rfl) h2
  obtain ⟨n, rfl, rfl, rfl, wn⟩ := open_int Tryd.underlying3 (hval 3 3 v3 rfl rfl) h3
  have bx : -9223372036854775808 ≤ x ∧ x ≤ 9223372036854775807 := by
    have e1 : IntKind.i64.min = -9223372036854775808 := rfl
    have e2 : IntKind.i64.max = 9223372036854775807 := rfl
    simpa [Lit.wf, e1, e2] using wx
  obtain ⟨rfl, rfl⟩ := trodVars_none hV
  clear hA0 hval0
  simp only [List.append_nil] at hW'
  obtain ⟨a, hvar, hg⟩ := range_var hL
  refine (law2 s x t n W ws wt bx.1 bx.2 hg _ _ hvar).mono fun e W' ⟨he, hb⟩ => ?_
  subst he
  refine ⟨_, rfl, _, _, _, [], [], [], hW', ?_, ?_, rfl, hb.frame _, fun h => by cases h⟩
  · exact trodAll_cons_mk (shut_bool Tryd.underlying4 _) trodAll_mk0
  · exact trodAll_cons_mk (shut_string Tryd.underlying9 ws) (trodAll_cons_mk (shut_int Tryd.underlying3 wx) (trodAll_cons_mk (shut_string Tryd.underlying9 wt) (trodAll_cons_mk (shut_int Tryd.underlying3 wn) trodAll_mk0)))

theorem over : Rows.fnIntColumnReadsBackItoaRow.holds Tryd.pinned (OpenSpec.ofChange Rows.fnIntColumnReadsBackItoaSpec) :=
  OpenClaim.holds_of_wide 6 Tryd.f6 rfl rfl rfl rfl rfl rfl rfl ⟨rfl, rfl, rfl, rfl, rfl⟩ rfl rfl rfl rfl rfl (by kernel_rfl) Tryd.func6 (by kernel_rfl)
    (of_decide_eq_true (by kernel_rfl)) (by unfold Func.isWrapper; first | (rw [if_pos (by decide +kernel)]; kernel_rfl) | (rw [if_neg (by decide +kernel)]; exact ⟨rfl, rfl⟩))
    (fun os started H enc _ => lifted os started H enc)

theorem isNumber : Tryd.prog.funcNamed Rows.fnIntColumnReadsBackItoaRow.func = some 6 := by kernel_rfl

/-- THE TIED CARD. -/
theorem card_holds : Rows.FnIntColumnReadsBackItoaCardSaid :=
  Claim7.holds_tied_plain_at .later [] [.data, .data, .data, .called, .called] true Rows.fnIntColumnReadsBackItoaCard.stood.harness true
    over (fun _ h => by cases h) (by kernel_rfl) (fun _ h => by cases h) fnIntColumnReadsBackItoa_row_tie rfl ⟨rfl, rfl⟩ (by kernel_rfl) rfl
    (fun f fn hf hfn => by
      obtain rfl : f = 6 := (Option.some.inj (isNumber.symm.trans hf)).symm
      obtain rfl : fn = Tryd.f6 := (Option.some.inj (Tryd.func6.symm.trans hfn)).symm
      exact ⟨by kernel_rfl, fun j t ht => by
        rw [Tryd.params6] at ht
        have hm : t ∈ [9, 3, 9, 3] := by simpa using Array.mem_of_getElem? ht
        have hall : ([9, 3, 9, 3].all fun u => !Tryd.prog.wantsStandIn u) = true := by kernel_rfl
        exact (show Tryd.prog.wantsStandIn t = false by simpa using List.all_eq_true.1 hall t hm)⟩)
    (by kernel_rfl)
end Go.Proofs.Qxb6603870aDoor.fnIntColumnReadsBackItoa
