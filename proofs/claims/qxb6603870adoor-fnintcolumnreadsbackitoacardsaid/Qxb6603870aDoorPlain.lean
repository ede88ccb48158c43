/-
  PLAIN LISTS AND NUMBERS (no Go in sight): the integer at a text's front, as JSON writes it: its sign, its run of digits, its value; and that strconv.Atoi's function reads just that.
-/
import Derived.Lib.AtoiAll
namespace Go.Proofs.Qxb6603870aDoor
open Go.Lib

def isDg (c : UInt8) : Bool := decide (48 ≤ c.toNat ∧ c.toNat ≤ 57)
def st (l : List UInt8) : Nat := if l.head? = some 45 then 1 else 0
def ds (l : List UInt8) : List UInt8 := (l.drop (st l)).takeWhile isDg
def en (l : List UInt8) : Nat := st l + (ds l).length
def numVal (acc : Nat) : List UInt8 → Nat
  | [] => acc
  | c :: r => numVal (acc * 10 + (c.toNat - 48)) r
def vl (l : List UInt8) : Nat := numVal 0 (ds l)
def lim (l : List UInt8) : Nat := if st l = 1 then 9223372036854775808 else 9223372036854775807
def value (l : List UInt8) : Int := if st l = 1 then -(vl l : Int) else vl l

theorem st_le (l : List UInt8) : st l ≤ l.length := by
  unfold st
  cases l with
  | nil => simp
  | cons c r => split <;> simp

theorem st_01 (l : List UInt8) : st l = 0 ∨ st l = 1 := by unfold st; split <;> simp

theorem length_takeWhile_le (p : UInt8 → Bool) : ∀ l : List UInt8, (l.takeWhile p).length ≤ l.length
  | [] => by simp
  | c :: r => by
    rw [List.takeWhile_cons]
    split
    · have := length_takeWhile_le p r; simp; omega
    · simp

theorem en_le (l : List UInt8) : en l ≤ l.length := by
  unfold en ds
  have h := length_takeWhile_le isDg (l.drop (st l))
  have := st_le l
  rw [List.length_drop] at h
  omega

theorem st_le_en (l : List UInt8) : st l ≤ en l := by unfold en; omega

/-- The run's own law: inside it every byte is a digit; at its end none is. -/
theorem takeWhile_step (p : UInt8 → Bool) : ∀ (l : List UInt8) (k : Nat) (hk : k < l.length), k ≤ (l.takeWhile p).length → (p l[k] = true ↔ k < (l.takeWhile p).length)
  | [], k, hk, _ => by simp at hk
  | c :: r, 0, hk, _ => by
    rw [List.takeWhile_cons]
    by_cases h : p c = true
    · simp [h]
    · simp [h]
  | c :: r, k + 1, hk, h => by
    rw [List.takeWhile_cons] at h ⊢
    by_cases hp : p c = true
    · rw [if_pos hp] at h ⊢
      have := takeWhile_step p r k (by simpa using hk) (by simpa using h)
      simpa using this
    · rw [if_neg hp] at h
      simp at h

theorem en_step (l : List UInt8) (k : Nat) (h1 : st l ≤ k) (h2 : k ≤ en l) (hk : k < l.length) : (isDg l[k] = true ↔ k < en l) := by
  unfold en at h2 ⊢
  have hk' : k - st l < (l.drop (st l)).length := by rw [List.length_drop]; omega
  have h := takeWhile_step isDg (l.drop (st l)) (k - st l) hk' (by unfold ds at h2; omega)
  have e : (l.drop (st l))[k - st l] = l[k] := by
    rw [List.getElem_drop]
    congr 1
    omega
  rw [e] at h
  rw [h]
  unfold ds
  omega

theorem ds_get (l : List UInt8) (i : Nat) (h : i < (ds l).length) : ∃ h2 : st l + i < l.length, (ds l)[i] = l[st l + i] := by
  have := en_le l
  have h2 : st l + i < l.length := by unfold en at this; omega
  refine ⟨h2, ?_⟩
  have hp : ds l <+: l.drop (st l) := List.takeWhile_prefix _
  rw [hp.getElem h, List.getElem_drop]

theorem ds_all (l : List UInt8) : ∀ c ∈ ds l, isDg c = true := by
  intro c hc
  have h := List.all_takeWhile (l := l.drop (st l)) (p := isDg)
  exact List.all_eq_true.1 h c hc

theorem numVal_append (a b : List UInt8) : ∀ acc, numVal acc (a ++ b) = numVal (numVal acc a) b := by
  induction a with
  | nil => intro acc; rfl
  | cons c r ih => intro acc; exact ih _

theorem le_numVal (l : List UInt8) : ∀ acc, acc ≤ numVal acc l := by
  induction l with
  | nil => intro acc; exact Nat.le_refl _
  | cons c r ih =>
    intro acc
    have := ih (acc * 10 + (c.toNat - 48))
    show acc ≤ numVal (acc * 10 + (c.toNat - 48)) r
    omega

theorem numVal_take_le (l : List UInt8) (j : Nat) : numVal 0 (l.take j) ≤ numVal 0 l := by
  have h := numVal_append (l.take j) (l.drop j) 0
  rw [List.take_append_drop] at h
  rw [h]
  exact le_numVal _ _

theorem numVal_step (l : List UInt8) (j : Nat) (h : j < l.length) : numVal 0 (l.take (j + 1)) = numVal 0 (l.take j) * 10 + (l[j].toNat - 48) := by
  rw [List.take_succ_eq_append_getElem h, numVal_append]
  rfl

theorem parseUint10_digits : ∀ (l : List UInt8) (acc : Nat), acc < 18446744073709551616 → (∀ c ∈ l, isDg c = true) → parseUint10 acc l = if numVal acc l < 18446744073709551616 then .ok (numVal acc l) else .range
  | [], acc, ha, _ => by
    have e : numVal acc [] = acc := rfl
    rw [e, if_pos ha, parseUint10]
  | c :: r, acc, ha, h => by
    have hc : 48 ≤ c.toNat ∧ c.toNat ≤ 57 := by simpa [isDg] using h c (by simp)
    have hm := le_numVal r (acc * 10 + (c.toNat - 48))
    have e : numVal acc (c :: r) = numVal (acc * 10 + (c.toNat - 48)) r := rfl
    rw [e]
    unfold parseUint10
    rw [if_pos hc]
    by_cases h1 : 1844674407370955162 ≤ acc
    · rw [if_pos h1, if_neg (by omega)]
    · rw [if_neg h1]
      by_cases h2 : 18446744073709551616 ≤ acc * 10 + (c.toNat - 48)
      · rw [if_pos h2, if_neg (by omega)]
      · rw [if_neg h2]
        exact parseUint10_digits r (acc * 10 + (c.toNat - 48)) (by omega) (fun x hx => h x (by simp [hx]))

/-- WHAT Atoi MAKES OF THE SIGN AND THE RUN. -/
theorem atoi_run (l : List UInt8) (hd : ds l ≠ []) : atoiAll (l.take (en l)) = if vl l ≤ lim l then .ok (value l) else .range := by
  have hall := ds_all l
  have hu := parseUint10_digits (ds l) 0 (by omega) hall
  have hm : parseMag (ds l) = parseUint10 0 (ds l) := by unfold parseMag; rw [if_neg hd]
  have htk : l.take (en l) = l.take (st l) ++ ds l := by
    unfold en
    rw [List.take_add]
    congr 1
    have hp : ds l <+: l.drop (st l) := List.takeWhile_prefix _
    exact (List.prefix_iff_eq_take.1 hp).symm
  have hvl : vl l = numVal 0 (ds l) := rfl
  rw [← hvl] at hu
  rcases st_01 l with h0 | h1
  · rw [htk, h0, List.take_zero, List.nil_append]
    unfold lim value
    rw [h0]
    cases hds : ds l with
    | nil => exact absurd hds hd
    | cons c r =>
      have hc : 48 ≤ c.toNat ∧ c.toNat ≤ 57 := by simpa [isDg] using hall c (by rw [hds]; simp)
      have n43 : ¬ (c.toNat = 43 ∨ c.toNat = 45) := by omega
      have n45 : ¬ (c.toNat = 45) := by omega
      unfold atoiAll
      simp only []
      rw [if_neg n43, ← hds, hm, hu]
      simp only [n45, not_false_eq_true, true_and, false_and, if_false]
      by_cases hv : vl l < 18446744073709551616
      · rw [if_pos hv]
        simp only []
        by_cases hb : 9223372036854775808 ≤ vl l
        · rw [if_pos hb, if_neg (by simp; omega)]
        · rw [if_neg hb, if_pos (by simp; omega)]; simp
      · rw [if_neg hv, if_neg (by simp; omega)]
  · rw [htk]
    have hh : l.head? = some 45 := by
      unfold st at h1
      split at h1
      · assumption
      · simp at h1
    have ht : l.take (st l) = [45] := by
      rw [h1]
      cases l with
      | nil => simp at hh
      | cons c r => simp at hh; simp [hh]
    rw [ht]
    unfold lim value
    rw [h1]
    unfold atoiAll
    have e45 : ((45 : UInt8).toNat = 45) = True := by simp
    simp only [List.singleton_append, e45, or_true, if_true, not_true_eq_false, false_and, if_false, true_and]
    rw [hm, hu]
    by_cases hv : vl l < 18446744073709551616
    · rw [if_pos hv]
      simp only []
      by_cases hb : 9223372036854775808 < vl l
      · rw [if_pos hb, if_neg (by omega)]
      · rw [if_neg hb, if_pos (by omega)]
    · rw [if_neg hv, if_neg (by omega)]

def good (l : List UInt8) : Bool := decide (ds l ≠ [] ∧ ¬ ((ds l).head? = some 48 ∧ 1 < (ds l).length) ∧ vl l ≤ lim l)
/-- WHAT intColumn DOES TO THE TEXT BEHIND THE NAME. -/
def colOk (r : ByteArray) : Bool := good r.data.toList
def colRest (r : ByteArray) : ByteArray := if good r.data.toList then r.extract (en r.data.toList) r.size else r
def colNum (r : ByteArray) (n : Int) : Int := if good r.data.toList then value r.data.toList else n
/-- 'rest begins with name', as the walk spells it. -/
def pre (s p : ByteArray) : Bool := decide (p.size ≤ s.size) && ((s.extract 0 p.size).toList == p.toList)
def fullOk (s p : ByteArray) : Bool := pre s p && colOk (s.extract p.size s.size)
def fullRest (s p : ByteArray) : ByteArray := if pre s p then colRest (s.extract p.size s.size) else s
def fullNum (s p : ByteArray) (n : Int) : Int := if pre s p then colNum (s.extract p.size s.size) n else n

end Go.Proofs.Qxb6603870aDoor
