/-
  THE PLAIN LAW: the canonical decimal of x, ahead of a tail that begins with no digit, reads back as x and leaves the tail.
-/
import Derived.Test.Qxb6603870aDoorPlain
import Derived.Test.Qxb6603870aDoorDigits
import Derived.Lib.Strings
namespace Go.Proofs.Qxb6603870aDoor
set_option linter.unusedVariables false

theorem isDg_dgB (d : Nat) (h : d < 10) : isDg (dgB d) = true := by
  have := dgB_toNat d h
  simp [isDg, this]
  omega
theorem IsDec.all {U : Nat} {l : List UInt8} (h : IsDec U l) : ∀ c ∈ l, isDg c = true := by
  intro c hc
  obtain ⟨j, hj, rfl⟩ := List.mem_iff_getElem.1 hc
  rw [h.2.2.2.2 j hj]
  exact isDg_dgB _ (Nat.mod_lt _ (by omega))
theorem IsDec.part {U : Nat} {l : List UInt8} (h : IsDec U l) : ∀ i, i ≤ l.length → numVal 0 (l.take i) = U / 10 ^ (l.length - i)
  | 0, _ => by rw [List.take_zero, Nat.sub_zero, h.2.2.1]; rfl
  | i + 1, hi => by
    rw [numVal_step l i (by omega), h.part i (by omega), h.2.2.2.2 i (by omega), dgB_toNat _ (Nat.mod_lt _ (by omega))]
    have e1 : l.length - i = (l.length - 1 - i) + 1 := by omega
    have e2 : l.length - (i + 1) = l.length - 1 - i := by omega
    rw [e1, e2, Nat.pow_succ, ← Nat.div_div_eq_div_mul]
    omega
theorem IsDec.val {U : Nat} {l : List UInt8} (h : IsDec U l) : numVal 0 l = U := by
  have := h.part l.length (Nat.le_refl _)
  rw [List.take_length, Nat.sub_self, Nat.pow_zero, Nat.div_one] at this
  exact this
theorem IsDec.head {U : Nat} {l : List UInt8} (h : IsDec U l) : ¬ (l.head? = some 48 ∧ 1 < l.length) := by
  rintro ⟨h1, h2⟩
  have h3 := h.2.2.2.1.resolve_left (by omega)
  have h4 := h.2.2.2.2 0 (by omega)
  have h5 : U / 10 ^ (l.length - 1) < 10 := by
    have := h.2.2.1
    have e1 : l.length = (l.length - 1) + 1 := by omega
    rw [e1, Nat.pow_succ, ← Nat.div_div_eq_div_mul] at this
    omega
  rw [List.head?_eq_getElem?, List.getElem?_eq_getElem (by omega), h4, Nat.sub_zero, Nat.mod_eq_of_lt h5] at h1
  injection h1 with h1
  have h6 := dgB_toNat _ h5
  rw [h1] at h6
  have : (48 : UInt8).toNat = 48 := rfl
  omega

theorem takeWhile_all (p : UInt8 → Bool) : ∀ (l t : List UInt8), (∀ c ∈ l, p c = true) → (∀ c, t.head? = some c → p c = false) → (l ++ t).takeWhile p = l
  | [], t, _, h2 => by
    cases t with
    | nil => rfl
    | cons c r => simp [h2 c rfl]
  | c :: r, t, h1, h2 => by
    rw [List.cons_append, List.takeWhile_cons, if_pos (h1 c (by simp)), takeWhile_all p r t (fun x hx => h1 x (by simp [hx])) h2]

/-- x's sign and digits ahead of the tail. -/
theorem back (x : Int) (l t : List UInt8) (hD : IsDec x.natAbs l) (h0 : -9223372036854775808 ≤ x) (h1 : x ≤ 9223372036854775807) (ht : ∀ c, t.head? = some c → isDg c = false) :
    good ((if x < 0 then 45 :: l else l) ++ t) = true ∧ value ((if x < 0 then 45 :: l else l) ++ t) = x ∧ ((if x < 0 then 45 :: l else l) ++ t).drop (en ((if x < 0 then 45 :: l else l) ++ t)) = t := by
  have hne : l ≠ [] := by intro e; have := hD.2.1; rw [e] at this; simp at this
  by_cases hx : x < 0
  · rw [if_pos hx]
    have hst : st (45 :: l ++ t) = 1 := by simp [st]
    have hds : ds (45 :: l ++ t) = l := by
      unfold ds
      rw [hst]
      exact takeWhile_all isDg l t hD.all ht
    have hvl : vl (45 :: l ++ t) = x.natAbs := by unfold vl; rw [hds, hD.val]
    refine ⟨?_, ?_, ?_⟩
    · unfold good
      rw [hds, hvl, decide_eq_true_iff]
      refine ⟨hne, hD.head, ?_⟩
      unfold lim
      rw [hst]
      simp
      omega
    · unfold value
      rw [hst, hvl]
      simp
      omega
    · unfold en
      rw [hst, hds]
      have e : 1 + l.length = l.length + 1 := by omega
      rw [e, List.cons_append, List.drop_succ_cons, List.drop_left]
  · rw [if_neg hx]
    have hst : st (l ++ t) = 0 := by
      unfold st
      rw [if_neg]
      cases l with
      | nil => exact absurd rfl hne
      | cons c r =>
        intro e
        simp at e
        have := hD.all c (by simp)
        rw [e] at this
        revert this
        decide
    have hds : ds (l ++ t) = l := by
      unfold ds
      rw [hst, List.drop_zero]
      exact takeWhile_all isDg l t hD.all ht
    have hvl : vl (l ++ t) = x.natAbs := by unfold vl; rw [hds, hD.val]
    refine ⟨?_, ?_, ?_⟩
    · unfold good
      rw [hds, hvl, decide_eq_true_iff]
      refine ⟨hne, hD.head, ?_⟩
      unfold lim
      rw [hst]
      simp
      omega
    · unfold value
      rw [hst, hvl]
      simp
      omega
    · unfold en
      rw [hst, hds, Nat.zero_add, List.drop_left]

theorem ext_list {a b : ByteArray} (h : a.data.toList = b.data.toList) : a = b := by
  obtain ⟨⟨x⟩⟩ := a
  obtain ⟨⟨y⟩⟩ := b
  simp at h
  rw [h]

/-- ON STRINGS: rest = name + decimal(x) + tail. -/
theorem back_full (name S tail : ByteArray) (x n : Int) (l : List UInt8) (hS : S.data.toList = if x < 0 then 45 :: l else l) (hD : IsDec x.natAbs l) (h0 : -9223372036854775808 ≤ x) (h1 : x ≤ 9223372036854775807)
    (ht : ∀ h : 0 < tail.size, isDg tail[0] = false) :
    fullOk (name ++ S ++ tail) name = true ∧ fullRest (name ++ S ++ tail) name = tail ∧ fullNum (name ++ S ++ tail) name n = x := by
  have hl : (name ++ S ++ tail).data.toList = name.data.toList ++ (S.data.toList ++ tail.data.toList) := by simp
  have hsz : (name ++ S ++ tail).size = name.size + (S.size + tail.size) := by simp [Nat.add_assoc]
  have hp : pre (name ++ S ++ tail) name = true := by
    have h2 : Lib.hasPrefix (name ++ S ++ tail).data.toList name.data.toList = true := by
      unfold Lib.hasPrefix
      rw [hl, List.isPrefixOf_iff_prefix]
      exact List.prefix_append _ _
    rw [← Lib.hasPrefix_raw] at h2
    exact h2
  have hr : ((name ++ S ++ tail).extract name.size (name ++ S ++ tail).size).data.toList = S.data.toList ++ tail.data.toList := by
    rw [Lib.extract_data, hl, Lib.size_eq name, List.drop_left, hsz]
    apply List.take_of_length_le
    rw [List.length_append, ← Lib.size_eq, ← Lib.size_eq, ← Lib.size_eq]
    omega
  have ht2 : ∀ c, tail.data.toList.head? = some c → isDg c = false := by
    intro c hc
    have hz : 0 < tail.size := by
      rw [Lib.size_eq]
      cases h : tail.data.toList with
      | nil => rw [h] at hc; simp at hc
      | cons a r => simp
    have h3 := ht hz
    have h4 : tail.data.toList.head? = some tail[0] := by
      rw [List.head?_eq_getElem?, List.getElem?_eq_getElem (by simpa using hz)]
      rfl
    rw [h4] at hc
    injection hc with hc
    rw [← hc]
    exact h3
  have hb := back x l tail.data.toList hD h0 h1 ht2
  rw [← hS, ← hr] at hb
  unfold fullOk fullRest fullNum colOk colRest colNum
  rw [hp, hb.1]
  refine ⟨rfl, ?_, ?_⟩
  · simp only [if_true]
    apply ext_list
    rw [Lib.extract_data, hb.2.2]
    apply List.take_of_length_le
    have h6 := congrArg List.length hb.2.2
    rw [List.length_drop] at h6
    rw [Lib.size_eq ((name ++ S ++ tail).extract name.size (name ++ S ++ tail).size)]
    omega
  · simp only [if_true]
    exact hb.2.1

end Go.Proofs.Qxb6603870aDoor
