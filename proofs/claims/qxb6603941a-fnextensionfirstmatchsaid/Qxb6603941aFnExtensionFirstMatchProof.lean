/-
  FnExtensionFirstMatch: THE ROW, out of the walk; the frame after the kit's shell for a law over slices.
-/
import Derived.Test.Qxb6603941aRows
import Derived.Test.Qxb6603941aFirst
import Derived.WalkKit
import Derived.ProofKit
import Derived.OpenShut
import Derived.ShutString
import Derived.ChangeOld
import Derived.Below
import Derived.Deep.SlicePairs
namespace Go.Proofs.Qxb6603941a.fnExtensionFirstMatch
open Go.ChangeShapes Go.WideShapes Go.ChangeAt Go.RowKit Go.Deep
set_option linter.unusedVariables false

theorem own : ownKnob Try.prog.godebug = none := by kernel_rfl
theorem laidOut : laidOutB Try.prog = true := by kernel_rfl
theorem cells35 : Try.prog.cellsOf 35 = 2 := by kernel_rfl
theorem cells23 : Try.prog.cellsOf 23 = 1 := by kernel_rfl
theorem cells27 : Try.prog.cellsOf 27 = 1 := by kernel_rfl
theorem cells5 : Try.prog.cellsOf 5 = 1 := by kernel_rfl

theorem block_of_cell {W : World} {b o : Nat} {v : Value} (h : W.cell? ⟨b, o, none⟩ = some v) : b < W.heap.size := by
  by_cases hb : b < W.heap.size
  · exact hb
  · exfalso
    unfold World.cell? at h
    have e : W.heap[b]? = none := by simp; omega
    simp [e] at h

section
variable {H : Type} {enc : TypeId × Value → H} {w : World} {base : Nat} {spare : Nat → Bool} {held : Bool}
/-- One data slice, opened. -/
theorem open_data {n : Nat} {v : Value} {x : DataW H × List MemPlace} (h : DataW.trod enc Try.prog w base spare held n 27 [v] = some x) (hsp : ∀ b, spare b = true) :
    ∃ (a : Option Addr) (l c : Nat) (f : Nat → Int), v = .slice a l c ∧ l ≤ maxLen ∧ Bytes w a l f := by
  rcases open_ints Try.underlying27 Try.underlying5 cells5 h with ⟨hcs, _⟩ | ⟨x, l, c, zs, hcs, _, hl, hm, hz, _, hcell, hwz⟩
  · injection hcs with e _
    exact ⟨none, 0, 0, fun _ => 0, e, Nat.zero_le _, .inl rfl⟩
  · injection hcs with e _
    refine ⟨some x, l, c, fun j => zs.getD j 0, e, Nat.le_trans hl hm, ?_⟩
    by_cases h0 : l = 0
    · exact .inl h0
    · have hzl : zs.length = c := by simpa [hsp] using hz
      obtain ⟨b, off, rfl, hc2⟩ := ints_at hcell (by omega)
      exact .inr ⟨b, off, rfl, block_of_cell (hc2 0 (by omega)), fun j hj => hc2 j (by omega)⟩

/-- The argument, opened: its elements by their index. -/
theorem open_exts {fuel : Nat} {a : Option Addr} {len cap : Nat} {x : DataW H × List MemPlace} (h : DataW.trod enc Try.prog w base spare held fuel 22 [.slice a len cap] = some x) (hsp : ∀ b, spare b = true) :
    ∃ (T : Nat → Int) (A : Nat → Option Addr) (L C : Nat → Nat) (F : Nat → Nat → Int), len ≤ maxLen ∧ Exts w a len T A L C ∧ (∀ i, i < len → L i ≤ maxLen) ∧ ∀ i, i < len → Bytes w (A i) (L i) (F i) := by
  rcases open_slice_pairs Try.underlying22 Try.underlying35 cells35 rfl rfl cells23 cells27 h with ⟨hcs, _⟩ | ⟨y, l, c, m, n, V0, V1, D0, D1, P0, P1, hcs, _, hl, hm, hmm, _, hel⟩
  · injection hcs with e _
    injection e with e1 e2 e3
    subst e2
    exact ⟨fun _ => 0, fun _ => none, fun _ => 0, fun _ => 0, fun _ _ => 0, Nat.zero_le _, .inl rfl, fun i hi => by omega, fun i hi => by omega⟩
  · injection hcs with e _
    injection e with e1 e2 e3
    subst e1 e2 e3
    rw [hsp, if_pos rfl] at hmm
    subst hmm
    have each : ∀ i, i < len → ∃ q : Int × Option Addr × Nat × Nat × (Nat → Int), V0 i = .int .u16 q.1 ∧ V1 i = .slice q.2.1 q.2.2.1 q.2.2.2.1 ∧ q.2.2.1 ≤ maxLen ∧ Bytes w q.2.1 q.2.2.1 q.2.2.2.2 := by
      intro i hi
      obtain ⟨_, _, t0, t1⟩ := hel i (by omega)
      obtain ⟨k, e0, _, _⟩ := DataW.trod_int Try.underlying23 t0
      injection e0 with e0 _
      obtain ⟨ai, li, ci, fi, ev, hli, hbi⟩ := open_data t1 hsp
      exact ⟨(k, ai, li, ci, fi), e0, ev, hli, hbi⟩
    obtain ⟨Q, hQ⟩ := choose_lt each
    refine ⟨fun i => (Q i).1, fun i => (Q i).2.1, fun i => (Q i).2.2.1, fun i => (Q i).2.2.2.1, fun i => (Q i).2.2.2.2, Nat.le_trans hl hm, ?_, fun i hi => (hQ i hi).2.2.1, fun i hi => (hQ i hi).2.2.2⟩
    by_cases h0 : len = 0
    · exact .inl h0
    · obtain ⟨b, off, spot⟩ := y
      have hspot : spot = none := by simpa [Addr.add] using World.cell?_spot (hel 0 (by omega)).1
      subst hspot
      have hat : ∀ i, i < len → w.cell? ⟨b, off + i * 2, none⟩ = some (.int .u16 (Q i).1) ∧ w.cell? ⟨b, off + i * 2 + 1, none⟩ = some (.slice (Q i).2.1 (Q i).2.2.1 (Q i).2.2.2.1) := by
        intro i hi
        obtain ⟨g0, g1, _, _⟩ := hel i (by omega)
        rw [Go.WideShapes.add_plain] at g0 g1
        rw [(hQ i hi).1] at g0
        rw [(hQ i hi).2.1] at g1
        exact ⟨g0, g1⟩
      exact .inr ⟨b, off, rfl, block_of_cell (hat 0 (by omega)).1, hat⟩
end

/-! ### THE ROW's STEP -/
set_option maxRecDepth 100000 in
theorem lifted (os : Os) (started : os.Started) (H : Type) (enc : TypeId × Value → H) :
    ReturnsInHanded {} Try.checked os 3 .any (Rows.fnExtensionFirstMatchSpec.pre6 enc Try.prog Try.f3 Rows.fnExtensionFirstMatchRow.domain false) (Rows.fnExtensionFirstMatchSpec.post enc Try.prog Try.f3 false true false false) := by
  refine returnsInHanded_of_change (C := Try.checked) own started (by kernel_rfl) Try.func3
    (ChangeSpec.witness6 (enc := enc) (C := Try.checked) false ⟨#[], #[.slice none 0 0, .int .u16 0], []⟩ 8 (by kernel_rfl) (by kernel_rfl) (by kernel_rfl) (by kernel_rfl)) ?_
  intro W base args ds gs before hval0 hW hcnd _
  have hval : ∀ (j : Nat) t v, Try.f3.params[j]? = some t → args[j]? = some v → Value.okWide Try.prog W .any base t v := hval0
  have hW' := hW
  obtain ⟨p, q, hA0, hV, rfl, hfz, hnd⟩ := hW
  have hA : DataW.TrodAll enc Try.prog W 0 (fun _ => true) true Try.f3.params.toList args.toList ds p := hA0
  rw [Try.params3] at hA hval
  obtain ⟨v0, vs0, d0, ds0, p0, q0, hargs, rfl, rfl, h0, r0⟩ := trodAll_cons hA
  obtain ⟨v1, vs1, d1, ds1, p1, q1, rfl, rfl, rfl, h1, r1⟩ := trodAll_cons r0
  obtain ⟨rfl, rfl, rfl⟩ := trodAll_nil r1
  obtain rfl : args = #[v0, v1] := by cases args; simp_all
  obtain ⟨rfl, rfl⟩ := trodVars_none hV
  obtain ⟨a0, len0, cap0, rfl⟩ := okWide_slice Try.underlying22 (hval 0 22 v0 rfl rfl)
  have k0 := h0
  have lt0 : ∀ x ∈ p0, x.block < W.heap.size := by obtain ⟨m, hm⟩ := k0; exact DataW.trod_lt m _ _ _ hm
  obtain ⟨T, A, L, C, F, hlen, hE, hL, hF⟩ : ∃ (T : Nat → Int) (A : Nat → Option Addr) (L C : Nat → Nat) (F : Nat → Nat → Int), len0 ≤ maxLen ∧ Exts W a0 len0 T A L C ∧ (∀ i, i < len0 → L i ≤ maxLen) ∧ ∀ i, i < len0 → Bytes W (A i) (L i) (F i) := by
    obtain ⟨fuel, hf⟩ := h0
    exact open_exts (by simpa [Value.cells] using hf) (fun _ => rfl)
  obtain ⟨a1, rfl, rfl, rfl, w1⟩ := open_int Try.underlying23 (hval 1 23 v1 rfl rfl) h1
  clear hA0 hval0
  refine (law3 a0 len0 cap0 a1 T A L C F W hlen hL (Lib.hid hE) (Lib.hid hF)).mono fun e W' ⟨he, bel⟩ => ?_
  subst he
  exact ⟨_, rfl, _, _, _, [], _, [], hW', trodAll_mk1 (shut_bool Try.underlying4 _), (trodAll_cons_mk (Below.trod laidOut (by kernel_rfl) (of_decide_eq_true (by kernel_rfl)) k0 bel lt0) (trodAll_cons_mk (shut_int Try.underlying23 w1) trodAll_mk0)), rfl, bel.frame _, fun h => by cases h⟩

theorem over : Rows.fnExtensionFirstMatchRow.holds Try.pinned (OpenSpec.ofChange Rows.fnExtensionFirstMatchSpec) :=
  OpenClaim.holds_of_wide 3 Try.f3 rfl rfl rfl rfl rfl rfl rfl ⟨rfl, rfl, rfl, rfl, rfl⟩ rfl rfl rfl rfl rfl (by kernel_rfl) Try.func3 (by kernel_rfl)
    (of_decide_eq_true (by kernel_rfl)) (by unfold Func.isWrapper; first | (rw [if_pos (by decide +kernel)]; kernel_rfl) | (rw [if_neg (by decide +kernel)]; exact ⟨rfl, rfl⟩))
    (fun os started H enc _ => lifted os started H enc)

/-- THE STATEMENT -/
theorem proved : Rows.FnExtensionFirstMatchSaid := over
end Go.Proofs.Qxb6603941a.fnExtensionFirstMatch
