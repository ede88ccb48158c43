/-
  FROM THE PLAIN FUNCTIONS ON LISTS TO THE FORMS THAT THE WALKS ASK (bytes by their place).
-/
import Derived.Test.Qxb6603870aDoorPlain
import Derived.Lib.Strings
namespace Go.Proofs.Qxb6603870aDoor
set_option linter.unusedVariables false

theorem getE (r : ByteArray) (k : Nat) (h : k < r.size) : ∃ h2 : k < r.data.toList.length, r.data.toList[k] = r[k] := ⟨by simpa using h, rfl⟩
theorem sizeE (r : ByteArray) : r.data.toList.length = r.size := by simp

theorem f_step (r : ByteArray) (k : Nat) (h1 : st r.data.toList ≤ k) (h2 : k < en r.data.toList) : ∃ h : k < r.size, isDg r[k] = true := by
  have h3 := en_le r.data.toList
  rw [sizeE] at h3
  have h : k < r.size := by omega
  obtain ⟨h4, e⟩ := getE r k h
  refine ⟨h, ?_⟩
  rw [← e]
  exact (en_step r.data.toList k h1 (by omega) h4).2 h2
theorem f_end (r : ByteArray) (h : en r.data.toList < r.size) : isDg r[en r.data.toList] = false := by
  obtain ⟨h4, e⟩ := getE r _ h
  rw [← e]
  have := en_step r.data.toList (en r.data.toList) (st_le_en _) (Nat.le_refl _) h4
  simpa using this
theorem f_en_le (r : ByteArray) : en r.data.toList ≤ r.size := by
  have h3 := en_le r.data.toList
  rwa [sizeE] at h3

theorem head_eq (r : ByteArray) (h : 0 < r.size) : r.data.toList.head? = some r[0] := by
  obtain ⟨h4, e⟩ := getE r 0 h
  rw [← e, List.head?_eq_getElem?, List.getElem?_eq_getElem h4]
theorem f_sign0 (r : ByteArray) (h : st r.data.toList = 0) (hz : 0 < r.size) : ((r[0].toNat : Int) == 45) = false := by
  unfold st at h
  rw [head_eq r hz] at h
  have h45 : ¬ (some r[0] = some (45 : UInt8)) := by
    intro e
    rw [if_pos e] at h
    omega
  have : r[0].toNat ≠ 45 := by
    intro e
    apply h45
    rw [← UInt8.ofNat_toNat (x := r[0]), e]
    rfl
  simp
  omega
theorem f_sign1 (r : ByteArray) (h : st r.data.toList = 1) : ∃ hz : 0 < r.size, ((r[0].toNat : Int) == 45) = true := by
  have hz : 0 < r.size := by
    have := st_le r.data.toList
    rw [sizeE] at this
    omega
  refine ⟨hz, ?_⟩
  unfold st at h
  rw [head_eq r hz] at h
  by_cases e : some r[0] = some (45 : UInt8)
  · injection e with e
    rw [e]
    rfl
  · rw [if_neg e] at h
    omega

/-- The sign's test: HasPrefix(r, "-"). -/
theorem f_minus (r : ByteArray) : pre r ⟨#[45]⟩ = decide (st r.data.toList = 1) := by
  have e1 : (⟨#[45]⟩ : ByteArray).size = 1 := rfl
  unfold pre
  rw [e1]
  by_cases hz : 0 < r.size
  · have hh := head_eq r hz
    have e2 : (r.extract 0 1).toList = [r[0]] := by
      rw [Lib.extract_toList]
      cases hl : r.data.toList with
      | nil => rw [hl] at hh; simp at hh
      | cons c t => rw [hl] at hh; simp at hh; simp [hh]
    have e3 : (⟨#[45]⟩ : ByteArray).toList = [45] := by rw [Lib.toList_data]
    rw [e2, e3, decide_eq_true (by omega : 1 ≤ r.size), Bool.true_and]
    unfold st
    rw [hh]
    by_cases e : r[0] = 45
    · simp [e]
    · simp [e]
  · rw [decide_eq_false (by omega : ¬ 1 ≤ r.size), Bool.false_and]
    have := st_le r.data.toList
    rw [sizeE] at this
    symm
    simp
    omega

/-- The magnitude behind k bytes. -/
def mg (r : ByteArray) (k : Nat) : Int := numVal 0 ((ds r.data.toList).take (k - st r.data.toList))
theorem mg_zero (r : ByteArray) : mg r (st r.data.toList) = 0 := by
  unfold mg
  rw [Nat.sub_self, List.take_zero]
  rfl
theorem mg_end (r : ByteArray) : mg r (en r.data.toList) = vl r.data.toList := by
  unfold mg vl
  have : en r.data.toList - st r.data.toList = (ds r.data.toList).length := by unfold en; omega
  rw [this, List.take_length]
theorem mg_pos (r : ByteArray) (k : Nat) : 0 ≤ mg r k := Int.natCast_nonneg _
theorem mg_le (r : ByteArray) (k : Nat) : mg r k ≤ vl r.data.toList := by
  unfold mg vl
  have := numVal_take_le (ds r.data.toList) (k - st r.data.toList)
  omega
theorem mg_step (r : ByteArray) (k : Nat) (h1 : st r.data.toList ≤ k) (h2 : k < en r.data.toList) (h : k < r.size) : mg r (k + 1) = mg r k * 10 + ((r[k].toNat : Int) - 48) := by
  have hl : k - st r.data.toList < (ds r.data.toList).length := by unfold en at h2; omega
  have hs := numVal_step (ds r.data.toList) (k - st r.data.toList) hl
  obtain ⟨h4, e⟩ := ds_get r.data.toList (k - st r.data.toList) hl
  have e5 : r.data.toList[st r.data.toList + (k - st r.data.toList)] = r[k] := by
    obtain ⟨h6, e6⟩ := getE r k h
    rw [← e6]
    congr 1
    omega
  rw [e, e5] at hs
  obtain ⟨_, hd⟩ := f_step r k h1 h2
  have hd2 : 48 ≤ r[k].toNat := by
    simp [isDg] at hd
    omega
  unfold mg
  have e7 : k + 1 - st r.data.toList = k - st r.data.toList + 1 := by omega
  rw [e7, hs]
  omega

theorem ds_empty (r : ByteArray) : ds r.data.toList = [] ↔ en r.data.toList ≤ st r.data.toList := by
  unfold en
  constructor
  · intro h; rw [h]; simp
  · intro h; exact List.length_eq_zero_iff.1 (by omega)
theorem ds_head (r : ByteArray) (h : st r.data.toList < en r.data.toList) (hz : st r.data.toList < r.size) : (ds r.data.toList).head? = some r[st r.data.toList] := by
  have hl : 0 < (ds r.data.toList).length := by unfold en at h; omega
  obtain ⟨h4, e⟩ := ds_get r.data.toList 0 hl
  rw [List.head?_eq_getElem?, List.getElem?_eq_getElem hl, e]
  obtain ⟨h6, e6⟩ := getE r _ hz
  rw [← e6]
  simp
theorem byte48 (c : UInt8) : (c = 48) ↔ ((c.toNat : Int) == 48) = true := by
  constructor
  · rintro rfl; rfl
  · intro h
    have : c.toNat = 48 := by simp at h; omega
    rw [← UInt8.ofNat_toNat (x := c), this]
    rfl

/-- WHERE 'good' SAYS NO AND YES, by the places. -/
theorem good_none (r : ByteArray) (h : en r.data.toList ≤ st r.data.toList) : good r.data.toList = false := by
  have := (ds_empty r).2 h
  simp [good, this]
theorem good_zero (r : ByteArray) (h : st r.data.toList + 1 < en r.data.toList) (hz : st r.data.toList < r.size) (h0 : ((r[st r.data.toList].toNat : Int) == 48) = true) : good r.data.toList = false := by
  have hh := ds_head r (by omega) hz
  rw [(byte48 _).2 h0] at hh
  have hl : 1 < (ds r.data.toList).length := by unfold en at h; omega
  simp [good, hh, hl]
theorem good_over (r : ByteArray) (h : lim r.data.toList < vl r.data.toList) : good r.data.toList = false := by
  unfold good
  rw [decide_eq_false_iff_not]
  rintro ⟨_, _, h3⟩
  omega
theorem good_yes (r : ByteArray) (h1 : st r.data.toList < en r.data.toList) (hz : st r.data.toList < r.size) (h0 : ((r[st r.data.toList].toNat : Int) == 48) = false ∨ en r.data.toList ≤ st r.data.toList + 1) (h : vl r.data.toList ≤ lim r.data.toList) : good r.data.toList = true := by
  unfold good
  rw [decide_eq_true_iff]
  refine ⟨fun e => by have := (ds_empty r).1 e; omega, ?_, h⟩
  rintro ⟨ha, hb⟩
  rcases h0 with h0 | h0
  · rw [ds_head r h1 hz] at ha
    injection ha with ha
    rw [(byte48 _).1 ha] at h0
    cases h0
  · unfold en at h0
    omega

theorem f_atoi (r : ByteArray) (h : st r.data.toList < en r.data.toList) : Lib.atoiAll (r.extract 0 (en r.data.toList)).data.toList = if vl r.data.toList ≤ lim r.data.toList then .ok (value r.data.toList) else .range := by
  rw [Lib.extract_data, List.drop_zero, Nat.sub_zero]
  exact atoi_run _ (fun e => by have := (ds_empty r).1 e; omega)

end Go.Proofs.Qxb6603870aDoor
