/-
  THE SHELL OF A PROOF OF 'Rows.FnDecimalPositionalSumSaid' ('example.com/fixity/fixity/zzlaws_internal_formats_b1.FnDecimalPositionalSum'), WRITTEN BY PROGRAM (proof-skeleton.mjs) off the guide's own print for that function. Not trusted: it is checked.
  THE WALK (step 1) is filled by hand.
-/
import Derived.Test.Qxb6603915aRows
import Derived.Test.Qxb6603915aWalks
import Derived.WalkKit
import Derived.ProofKit
import Derived.OpenShut
import Derived.ShutString
import Derived.Outline
import Derived.Lib.Hide
namespace Go.Proofs.Qxb6603915a.fnDecimalPositionalSum
open Go.ChangeShapes Go.WideShapes Go.ChangeAt Go.RowKit
open Go.ChangeMaps (open_string shut_string)
set_option linter.unusedVariables false      -- a walk need not use every 'w<i>' (that an integer argument fits its kind)

theorem own : ownKnob Try.prog.godebug = none := by kernel_rfl

/-! ### STEP 1: THE WALK: the Go text returns true -/
theorem ret_true {b : Bool} (h : b = true) : Ending.returned (.bool b) = .returned (.bool true) := by rw [h]

set_option maxHeartbeats 1000000 in
theorem walk (a0 : ByteArray) (w0 : a0.size ≤ maxLen) (w : World) :
    Calls Try.prog 3 #[.string a0] w fun e w' => e = .returned (.bool true) ∧ Grown w w' := by
  have hmax : a0.size ≤ 9223372036854775807 := by unfold maxLen at w0; exact w0
  by_cases hbig : 1048576 < a0.size
  · go_enter Try.func3, Try.ntmps3
    go_wp2_with (go_at_call 6; refine (zzBytes_no _ _ hbig).mono ?_; rintro e w' ⟨rfl, rfl⟩)
    go_ret
    exact ⟨rfl, Grown.refl _⟩
  · have hn : ¬ (1048576 < (a0.size : Int)) := by omega
    have W0 := Lib.hid w0
    clear w0
    go_enter Try.func3, Try.ntmps3
    go_wp2_with (first | (go_at_call 6; refine (zzBytes_yes _ _ (by omega)).mono ?_; rintro e w' ⟨rfl, rfl⟩) | (go_at_call 7; refine (zzdecimal_any _ _ W0.out).mono ?_; rintro e w' ⟨rfl, rfl⟩))
    have hl : a0.data.toList.length = a0.size := by simp
    have hE : Hid ((!a0.toList.isEmpty) = okFrom a0.data.toList a0.size) := by
      have h := okFrom_end a0.data.toList a0.size (by rw [hl]; exact Nat.le_refl _)
      exact Lib.hid (by rw [h, ByteArray.toList_eq])
    clear hl
    go_loop [5, 6, 7, 8] (fun ok want pow i => ∃ k : Nat, k ≤ a0.size ∧ i = .int .i64 ((k : Int) - 1) ∧ ok = .bool (okFrom a0.data.toList k) ∧ want = .int .i64 (wrap64 (valR (a0.data.toList.drop k))) ∧ pow = .int .i64 (wrap64 ((10 : Int) ^ (a0.size - k)))) (fun _ _ _ i => (intOf i + 1).toNat)
    case atStart => exact ⟨a0.size, Nat.le_refl _, rfl, by rw [hE.out], by rw [List.drop_eq_nil_of_le (by simp)]; simp [valR, wrap64], by rw [Nat.sub_self]; simp [wrap64]⟩
    case round =>
      obtain ⟨k, hk, rfl, rfl, rfl, rfl⟩ := hrel
      rcases k with _ | k
      · have hz : okFrom a0.data.toList 0 = decOK a0.data.toList := okFrom_zero _
        rw [hz, List.drop_zero]
        have HW : Hid (decN a0.data.toList = if decOK a0.data.toList then wrap64 (valR a0.data.toList) else 0) := decN_want _
        clear hz hE
        by_cases hd : decOK a0.data.toList = true
        · have hN : decN a0.data.toList = wrap64 (valR a0.data.toList) := by rw [HW.out, if_pos hd]
          clear HW
          go_wp2
          go_ret
          exact ⟨rfl, Grown.refl _⟩
        · have hd' : decOK a0.data.toList = false := by simpa using hd
          have hN : decN a0.data.toList = 0 := by rw [HW.out, if_neg hd]
          clear HW hd
          go_wp2
          go_ret
          exact ⟨rfl, Grown.refl _⟩
      · have ek : (((k + 1 : Nat) : Int) - 1) = k := by omega
        rw [ek]
        clear ek
        have hlt : k < a0.size := by omega
        have HV := Lib.hid (valR_step a0 k hlt)
        have HP := Lib.hid (pow_step a0.size k hlt)
        cases hd : isDg a0[k]
        · have HO := Lib.hid (okFrom_no a0 k hlt hd)
          have HD := Lib.hid hd
          clear hd
          go_wp2_with (go_at_call 8; refine (digit_no _ _ HD.out).mono ?_; rintro e w' ⟨rfl, rfl⟩)
          go_round
          case rel => exact ⟨k, by omega, rfl, by rw [HO.out], by rw [HV.out], by rw [HP.out]⟩
          case measure => simp [intOf]
        · have HO := Lib.hid (okFrom_yes a0 k hlt hd)
          have HD := Lib.hid hd
          clear hd
          go_wp2_with (go_at_call 8; refine (digit_yes _ _ HD.out).mono ?_; rintro e w' ⟨rfl, rfl⟩)
          go_round
          case rel => exact ⟨k, by omega, rfl, by rw [HO.out], by rw [HV.out], by rw [HP.out]⟩
          case measure => simp [intOf]

/-! ### THE ROW's STEP: WRITTEN OUT: LEAVE IT -/
set_option maxRecDepth 100000 in
theorem lifted (os : Os) (started : os.Started) (H : Type) (enc : TypeId × Value → H) :
    ReturnsInHanded {} Try.checked os 3 .any (Rows.fnDecimalPositionalSumSpec.pre6 enc Try.prog Try.f3 Rows.fnDecimalPositionalSumRow.domain false) (Rows.fnDecimalPositionalSumSpec.post enc Try.prog Try.f3 false true false false) := by
  refine returnsInHanded_of_change (C := Try.checked) own started (by kernel_rfl) Try.func3
    (ChangeSpec.witness6 (enc := enc) (C := Try.checked) false ⟨#[], #[.string ByteArray.empty], []⟩ 8 (by kernel_rfl) (by kernel_rfl) (by kernel_rfl) (by kernel_rfl)) ?_
  intro W base args ds gs before hval0 hW hcnd _
  have hval : ∀ (j : Nat) t v, Try.f3.params[j]? = some t → args[j]? = some v → Value.okWide Try.prog W .any base t v := hval0
  have hW' := hW
  obtain ⟨p, q, hA0, hV, rfl, hfz, hnd⟩ := hW
  have hA : DataW.TrodAll enc Try.prog W 0 (fun _ => true) true Try.f3.params.toList args.toList ds p := hA0
  rw [Try.params3] at hA hval
  obtain ⟨v0, vs0, d0, ds0, p0, q0, hargs, rfl, rfl, h0, r0⟩ := trodAll_cons hA
  obtain ⟨rfl, rfl, rfl⟩ := trodAll_nil r0
  obtain rfl : args = #[v0] := by cases args; simp_all
  obtain ⟨rfl, rfl⟩ := trodVars_none hV
  obtain ⟨a0, rfl, rfl, rfl, w0⟩ := open_string Try.underlying9 (hval 0 9 v0 rfl rfl) h0
  clear hA0 hval0
  simp only [List.append_nil] at hW'
  refine (walk a0 w0 W).mono fun e W' ⟨he, hg⟩ => ?_
  subst he
  exact ⟨_, rfl, post_of_same (pa := []) (pv := []) hW' (fun _ _ _ => (trodAll_cons_mk (shut_bool Try.underlying4 _) trodAll_mk0)) (fun sp _ => (trodAll_cons_mk (shut_string Try.underlying9 w0) trodAll_mk0)) (fun _ _ => rfl) rfl
    (hg.frame _) hg.2.1 (ok_one (by kernel_rfl) rfl (okWide_bool_mk Try.underlying4 _))⟩

theorem over : Rows.fnDecimalPositionalSumRow.holds Try.pinned (OpenSpec.ofChange Rows.fnDecimalPositionalSumSpec) :=
  OpenClaim.holds_of_wide 3 Try.f3 rfl rfl rfl rfl rfl rfl rfl ⟨rfl, rfl, rfl, rfl, rfl⟩ rfl rfl rfl rfl rfl (by kernel_rfl) Try.func3 (by kernel_rfl)
    (of_decide_eq_true (by kernel_rfl)) (by unfold Func.isWrapper; first | (rw [if_pos (by decide +kernel)]; kernel_rfl) | (rw [if_neg (by decide +kernel)]; exact ⟨rfl, rfl⟩))
    (fun os started H enc _ => lifted os started H enc)

/-- ████ THE STATEMENT ████ -/
theorem proved : Rows.FnDecimalPositionalSumSaid :=
  over
end Go.Proofs.Qxb6603915a.fnDecimalPositionalSum
