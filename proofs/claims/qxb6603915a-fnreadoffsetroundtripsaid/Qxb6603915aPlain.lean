/-
  PLAIN LISTS AND NUMBERS (no Go in sight): a decimal numeral read from the left, and its positional sum from the right, both in int's wrapping arithmetic: they are one.
-/
import Derived.RowKit
namespace Go.Proofs.Qxb6603915a
open Go.RowKit

/-- A byte's digit test, in the walk's numbers. -/
def isDg (c : UInt8) : Bool := decide (48 ≤ (c.toNat : Int) ∧ (c.toNat : Int) ≤ 57)
/-- Read from the left, exactly. -/
def accD (acc : Int) : List UInt8 → Int
  | [] => acc
  | c :: r => accD (acc * 10 + ((c.toNat : Int) - 48)) r
/-- A byte's digit, 0 where it is none. -/
def dv (c : UInt8) : Int := if isDg c then (c.toNat : Int) - 48 else 0
/-- The positional sum. -/
def valR : List UInt8 → Int
  | [] => 0
  | c :: r => dv c * 10 ^ r.length + valR r

def decOK (l : List UInt8) : Bool := l.all isDg && !l.isEmpty
def decN (l : List UInt8) : Int := if l.all isDg then wrap64 (accD 0 l) else 0

theorem isDg_yes {c : UInt8} (h1 : 48 ≤ (c.toNat : Int)) (h2 : (c.toNat : Int) ≤ 57) : isDg c = true := by simp [isDg]; omega
theorem isDg_lo {c : UInt8} (h1 : (c.toNat : Int) < 48) : isDg c = false := by simp [isDg]; omega
theorem isDg_hi {c : UInt8} (h1 : 57 < (c.toNat : Int)) : isDg c = false := by simp [isDg]; omega

theorem wrap_add (a b : Int) : wrap64 (wrap64 a + b) = wrap64 (a + b) := by unfold wrap64; omega
theorem wrap_add' (a b : Int) : wrap64 (a + wrap64 b) = wrap64 (a + b) := by unfold wrap64; omega
theorem wrap_mul (a b : Int) : wrap64 (wrap64 a * b) = wrap64 (a * b) := by
  have h : wrap64 a = a + 18446744073709551616 * (-((a + 9223372036854775808) / 18446744073709551616)) := by unfold wrap64; omega
  rw [h, Int.add_mul, Int.mul_assoc]
  generalize (-((a + 9223372036854775808) / 18446744073709551616)) * b = z
  unfold wrap64
  omega
theorem wrap_mul' (a b : Int) : wrap64 (a * wrap64 b) = wrap64 (a * b) := by rw [Int.mul_comm, wrap_mul, Int.mul_comm]
theorem wrap_id (a : Int) (h1 : -9223372036854775808 ≤ a) (h2 : a ≤ 9223372036854775807) : wrap64 a = a := by unfold wrap64; omega

theorem accD_append (a b : List UInt8) : ∀ acc, accD acc (a ++ b) = accD (accD acc a) b := by
  induction a with
  | nil => intro acc; rfl
  | cons c r ih => intro acc; exact ih _

/-- The left reading's step. -/
theorem accD_step (l : List UInt8) (c : UInt8) : wrap64 (wrap64 (wrap64 (accD 0 l) * 10) + ((c.toNat : Int) - 48)) = wrap64 (accD 0 (l ++ [c])) := by
  rw [accD_append, wrap_mul, wrap_add]
  rfl

theorem accD_val (l : List UInt8) : ∀ acc, l.all isDg = true → accD acc l = acc * 10 ^ l.length + valR l := by
  induction l with
  | nil => intro acc _; simp [accD, valR]
  | cons c r ih =>
    intro acc h
    simp only [List.all_cons, Bool.and_eq_true] at h
    show accD (acc * 10 + ((c.toNat : Int) - 48)) r = _
    rw [ih _ h.2]
    simp only [valR, dv, h.1, if_true, List.length_cons]
    rw [Int.pow_succ, Int.add_mul]
    have e : acc * 10 * 10 ^ r.length = acc * (10 ^ r.length * 10) := by rw [Int.mul_assoc, Int.mul_comm 10]
    rw [e]
    omega

/-- THE LAW: the left reading is the positional sum, where all are digits. -/
theorem decN_val (l : List UInt8) (h : l.all isDg = true) : decN l = wrap64 (valR l) := by
  unfold decN
  rw [if_pos h, accD_val l 0 h]
  simp

theorem decOK_all {l : List UInt8} (h : decOK l = true) : l.all isDg = true := by
  unfold decOK at h
  simp only [Bool.and_eq_true] at h
  exact h.1

/-- What the law's text makes of it: the sum where accepted, 0 where not. -/
theorem decN_want (l : List UInt8) : decN l = if decOK l then wrap64 (valR l) else 0 := by
  by_cases h : decOK l = true
  · rw [if_pos h, decN_val l (decOK_all h)]
  · rw [if_neg h]
    by_cases ha : l.all isDg = true
    · have : l = [] := by simpa [decOK, ha] using h
      subst this
      simp [decN, accD, wrap64]
    · unfold decN
      rw [if_neg ha]

theorem drop_cons (s : ByteArray) (k : Nat) (h : k < s.size) : s.data.toList.drop k = s[k] :: s.data.toList.drop (k + 1) := by
  rw [List.drop_eq_getElem_cons (by simpa using h)]
  rfl
theorem take_snoc (s : ByteArray) (k : Nat) (h : k < s.size) : s.data.toList.take (k + 1) = s.data.toList.take k ++ [s[k]] := by
  rw [List.take_succ_eq_append_getElem (by simpa using h)]
  rfl

/-- The law's 'wantOK' behind the bytes from k on. -/
def okFrom (l : List UInt8) (k : Nat) : Bool := !l.isEmpty && (l.drop k).all isDg
theorem okFrom_end (l : List UInt8) (k : Nat) (h : l.length ≤ k) : okFrom l k = !l.isEmpty := by
  unfold okFrom
  rw [List.drop_eq_nil_of_le h]
  simp
theorem okFrom_zero (l : List UInt8) : okFrom l 0 = decOK l := by
  unfold okFrom decOK
  rw [List.drop_zero, Bool.and_comm]
theorem okFrom_yes (s : ByteArray) (k : Nat) (h : k < s.size) (hd : isDg s[k] = true) : okFrom s.data.toList (k + 1) = okFrom s.data.toList k := by
  unfold okFrom
  rw [drop_cons s k h, List.all_cons, hd]
  simp
theorem okFrom_no (s : ByteArray) (k : Nat) (h : k < s.size) (hd : isDg s[k] = false) : okFrom s.data.toList k = false := by
  unfold okFrom
  rw [drop_cons s k h, List.all_cons, hd]
  simp
/-- The right sum's step. -/
theorem valR_step (s : ByteArray) (k : Nat) (h : k < s.size) :
    wrap64 (wrap64 (valR (s.data.toList.drop (k + 1))) + wrap64 (dv s[k] * wrap64 (10 ^ (s.size - (k + 1))))) = wrap64 (valR (s.data.toList.drop k)) := by
  rw [wrap_mul', wrap_add, wrap_add', drop_cons s k h]
  have e : (s.data.toList.drop (k + 1)).length = s.size - (k + 1) := by simp
  simp only [valR, e]
  rw [Int.add_comm]
theorem pow_step (n k : Nat) (h : k < n) : wrap64 (wrap64 ((10 : Int) ^ (n - (k + 1))) * 10) = wrap64 ((10 : Int) ^ (n - k)) := by
  rw [wrap_mul, ← Int.pow_succ]
  congr 2
  omega

end Go.Proofs.Qxb6603915a
