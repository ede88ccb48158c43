/-
  THE INTERNER's STATE: the struct's two cells; the map as a datum over the strings interned so far; the builder.
-/
import Derived.Test.Qxb6604019aStrs
import Derived.Test.Qxb6604019aShelf
import Derived.Maps.OwnSet
import Derived.Maps.StringElems
namespace Go.Proofs.Qxb6604019a
open Go.RowKit Go.Maps
set_option linter.unusedVariables false

/-! ### The map's datum (plain) -/
/-- How many different ones are on the list. -/
def dc : List (List UInt8) → Nat
  | [] => 0
  | x :: r => if r.contains x then dc r else dc r + 1
theorem dc_le : ∀ l, dc l ≤ l.length
  | [] => Nat.le_refl _
  | x :: r => by
    have := dc_le r
    unfold dc
    split <;> simp <;> omega

theorem keyLit (l : List UInt8) : WideAt.IsKeyLit (.string l) := trivial
/-- D maps just the strings on Sn, each to itself. -/
structure Good (D : DataW Unit) (Sn : List (List UInt8)) : Prop where
  tidy : Maps.Tidy D
  has : ∀ l, Maps.has D (.string l) = Sn.contains l
  at_ : ∀ l, Sn.contains l = true → ∀ z, D.atKey (.string l) z = .lit (.string l)
  size : Maps.size D = dc Sn

theorem Good.empty : Good (.map []) [] := ⟨Maps.tidy_empty, fun l => rfl, fun l h => by simp at h, rfl⟩
theorem Good.nil {Sn : List (List UInt8)} (h : Good (.map []) Sn) : Sn = [] := by
  cases Sn with
  | nil => rfl
  | cons x r =>
    have := h.has x
    simp [Maps.has] at this
theorem Good.again {D : DataW Unit} {Sn : List (List UInt8)} (h : Good D Sn) {l : List UInt8} (hl : Sn.contains l = true) : Good D (l :: Sn) where
  tidy := h.tidy
  has := fun x => by
    rw [h.has, List.contains_cons]
    by_cases e : x = l
    · subst e
      rw [hl]
      simp
    · have : (x == l) = false := by simp [e]
      rw [this, Bool.false_or]
  at_ := fun x hx z => by
    rw [List.contains_cons] at hx
    by_cases e : x = l
    · subst e; exact h.at_ x hl z
    · have : (x == l) = false := by simp [e]
      rw [this, Bool.false_or] at hx
      exact h.at_ x hx z
  size := by
    rw [h.size]
    show dc Sn = if Sn.contains l then dc Sn else dc Sn + 1
    rw [if_pos hl]
theorem Good.new {D : DataW Unit} {Sn : List (List UInt8)} (h : Good D Sn) {l : List UInt8} (hl : Sn.contains l = false) : Good (D.put (.string l) (.lit (.string l))) (l :: Sn) where
  tidy := h.tidy.put (keyLit l) _
  has := fun x => by
    rw [List.contains_cons]
    by_cases e : x = l
    · subst e
      rw [Maps.has_put_same h.tidy.isMap (keyLit x)]
      simp
    · rw [Maps.has_put_other (by intro e2; injection e2 with e3; exact e e3), h.has]
      have : (x == l) = false := by simp [e]
      rw [this]; simp
  at_ := fun x hx z => by
    by_cases e : x = l
    · subst e
      exact Maps.atKey_put_same h.tidy.isMap (keyLit x) _ _
    · rw [Maps.atKey_put_other (by intro e2; injection e2 with e3; exact e e3)]
      rw [List.contains_cons] at hx
      have : (x == l) = false := by simp [e]
      rw [this, Bool.false_or] at hx
      exact h.at_ x hx z
  size := by
    rw [Maps.size_put h.tidy, h.has, h.size, hl]
    show _ = if Sn.contains l then dc Sn else dc Sn + 1
    rw [hl]

/-! ### The state in memory -/
theorem law : Keyed Try.prog 9 := string_keyed Try.underlying9
theorem zero9 (w : World) : (zeroValue 9).run Try.prog w = .ok (.string ⟨#[]⟩) w := by kernel_rfl
theorem zeroRd : plainElem (H := Unit) Try.prog 9 (.string ⟨#[]⟩) = some (.lit (.string []), []) := plainElem_string Try.underlying9 (by decide)

abbrev Owns (w : World) (m k : Nat) (D : DataW Unit) : Prop := w.ownsMap Try.prog 9 (plainElem Try.prog 9) m k D
def MapPart (w : World) (I : Nat) (mv : Value) (k : Nat) (D : DataW Unit) : Prop := (mv = .map none ∧ D = .map []) ∨ ∃ m, mv = .map (some m) ∧ I < m ∧ Owns w m k D
def BldPart (w : World) (I : Nat) (bv : Value) (k : Nat) : Prop := bv = .pointer none ∨ ∃ b l, bv = .pointer (some ⟨b, 0, none⟩) ∧ I < b ∧ Lib.IsBuilderF 54 5 I b (Lib.byteCells l) w ∧ l.length ≤ k * 1048576
def Cells (w : World) (I : Nat) (mv bv : Value) : Prop := w.heap[I]? = some (.cells #[mv, bv] 49 (0, 0))
def St (w : World) (I : Nat) (Sn : List (List UInt8)) (k : Nat) : Prop := ∃ mv bv D, Cells w I mv bv ∧ Good D Sn ∧ MapPart w I mv k D ∧ BldPart w I bv k

theorem Cells.c0 {w : World} {I : Nat} {mv bv : Value} (h : Cells w I mv bv) : w.cell? ⟨I, 0, none⟩ = some mv := by unfold Cells at h; simp [World.cell?, h]
theorem Cells.c1 {w : World} {I : Nat} {mv bv : Value} (h : Cells w I mv bv) : w.cell? ⟨I, 1, none⟩ = some bv := by unfold Cells at h; simp [World.cell?, h]
theorem Cells.fz {w : World} {I : Nat} {mv bv : Value} (h : Cells w I mv bv) (j : Nat) : w.frozen? ⟨I, j, none⟩ = false := by unfold Cells at h; simp [World.frozen?, h]
theorem Cells.lt {w : World} {I : Nat} {mv bv : Value} (h : Cells w I mv bv) : I < w.heap.size := (Array.getElem?_eq_some_iff.1 h).1
theorem Cells.set0 {w : World} {I : Nat} {mv bv : Value} (h : Cells w I mv bv) (x : Value) : Cells (w.setCell ⟨I, 0, none⟩ x) I x bv := by
  unfold Cells at *
  simp [World.setCell, Array.getElem?_modify, h]
theorem Cells.set1 {w : World} {I : Nat} {mv bv : Value} (h : Cells w I mv bv) (x : Value) : Cells (w.setCell ⟨I, 1, none⟩ x) I mv x := by
  unfold Cells at *
  simp [World.setCell, Array.getElem?_modify, h]
theorem Cells.alloc {w : World} {I : Nat} {mv bv : Value} (h : Cells w I mv bv) (o : Obj) : Cells (w.alloc o) I mv bv := by
  have hl := h.lt
  unfold Cells at *
  rw [Below.heap_alloc _ _ _ hl]
  exact h

/-- A map's block that stands. -/
theorem owns_of {w w' : World} {m k : Nat} {D : DataW Unit} (h : Owns w m k D) (e : w'.heap[m]? = w.heap[m]?) : Owns w' m k D := by
  obtain ⟨es, c, hb, r⟩ := h
  exact ⟨es, c, e.trans hb, r⟩
theorem owns_others {w w' : World} {m k b : Nat} {D : DataW Unit} (h : Owns w m k D) (hne : m ≠ b) (ho : Lib.OthersKept 5 (some b) w w') : Owns w' m k D := by
  obtain ⟨es, c, hb, r⟩ := h
  exact ⟨es, c, ho m _ hb (by intro e; injection e with e; exact hne e) (by intro a b e; cases e), r⟩
theorem cells_others {w w' : World} {I b : Nat} {mv bv : Value} (h : Cells w I mv bv) (hne : I ≠ b) (ho : Lib.OthersKept 5 (some b) w w') : Cells w' I mv bv :=
  ho I _ h (by intro e; injection e with e; exact hne e) (by intro a b e; injection e with _ e2; cases e2)

/-- A world that agrees on every row but I's. -/
def RowsKept (I : Nat) (w w' : World) : Prop := ∀ j c t fz, w.heap[j]? = some (.cells c t fz) → j ≠ I → w'.heap[j]? = some (.cells c t fz)
theorem bld_keep {w w' : World} {I b : Nat} {bs : List Value} {mv bv : Value} (hI : Cells w I mv bv) (h : Lib.IsBuilderF 54 5 I b bs w) (hb : I < b) (hk : RowsKept I w w') : Lib.IsBuilderF 54 5 I b bs w' := by
  have one : ∀ p, Lib.BuilderAtF 54 5 I b p bs w → Lib.BuilderAtF 54 5 I b p bs w' := by
    rintro p ⟨h1, v, h2, h3, h4⟩
    refine ⟨h1, v, hk _ _ _ _ h2 (by omega), ⟨h3.1, ?_⟩, h4⟩
    rcases h3.2 with h5 | ⟨g, cap, cur, fz, e1, e2, e3, e4⟩
    · exact .inl h5
    · refine .inr ⟨g, cap, cur, fz, e1, e2, hk _ _ _ _ e3 ?_, e4⟩
      rintro rfl
      unfold Cells at hI
      rw [hI] at e3
      injection e3 with e3
      injection e3 with _ e5
      cases e5
  exact h.elim (fun x => .inl (one _ x)) (fun x => .inr (one _ x))
theorem rows_set {I : Nat} {w : World} (a : Nat) (x : Value) : RowsKept I w (w.setCell ⟨I, a, none⟩ x) := fun j c t fz h hne => by
  rw [Below.heap_setCell _ _ _ _ hne]
  exact h
theorem rows_alloc {I : Nat} {w : World} (o : Obj) : RowsKept I w (w.alloc o) := fun j c t fz h hne => by
  rw [Below.heap_alloc _ _ _ (Array.getElem?_eq_some_iff.1 h).1]
  exact h
theorem rows_turned {I m : Nat} {w w' : World} (h : w.mapTurned w' m) : RowsKept I w w' := by
  intro j c t fz hj hne
  have hg := h.grown
  have hlt := (Array.getElem?_eq_some_iff.1 hj).1
  obtain ⟨es, cl, es', cl', hm, _⟩ := h
  rw [hg.block j hlt (by rintro e; injection e with e; subst e; rw [hm] at hj; injection hj with hj; cases hj)]
  exact hj
theorem rows_trans {I : Nat} {a b c : World} (h : RowsKept I a b) (k : RowsKept I b c) : RowsKept I a c := fun j x t fz hj hne => k j x t fz (h j x t fz hj hne) hne
theorem cells_turned {w w' : World} {I m : Nat} {mv bv : Value} (h : Cells w I mv bv) (ht : w.mapTurned w' m) (hne : I ≠ m) : Cells w' I mv bv := by
  have hl := h.lt
  unfold Cells at *
  rw [ht.grown.block I hl (by intro e; injection e with e; exact hne e)]
  exact h

theorem ext_list {a b : ByteArray} (h : a.data.toList = b.data.toList) : a = b := by
  obtain ⟨⟨x⟩⟩ := a
  obtain ⟨⟨y⟩⟩ := b
  simp at h
  rw [h]

/-! ### The map's operations -/
/-- 'kept, ok := seen[s]'. -/
theorem look {w : World} {I k : Nat} {mv : Value} {D : DataW Unit} {Sn : List (List UInt8)} (hg : Good D Sn) (hm : MapPart w I mv k D) (s : ByteArray) (hs : s.size ≤ 1048576) :
    ∃ v : ByteArray, (Instr.lookup 40 mv (.string s) true).run Try.prog w = .ok (.tuple #[.string v, .bool (Sn.contains s.data.toList)]) w ∧ (Sn.contains s.data.toList = true → v = s) := by
  have hkey : keyOf Try.prog 9 (.string s) = some (.string s.data.toList) := WideMaps.keyOf_string_mk Try.underlying9 (by unfold maxLen; omega)
  rcases hm with ⟨rfl, rfl⟩ | ⟨m, rfl, _, ho⟩
  · obtain rfl := hg.nil
    refine ⟨⟨#[]⟩, ?_, fun h => by simp at h⟩
    exact Maps.look_nil true law Try.underlying40 (zero9 w) hkey
  · obtain ⟨v, ps, hrun, hv⟩ := ho.look_ok law Try.underlying40 (zero9 w) zeroRd hkey
    obtain ⟨t, rfl, ht, _⟩ := plainElem_string_inv Try.underlying9 hv
    refine ⟨t, by rw [← hg.has]; exact hrun, fun h => ?_⟩
    rw [hg.at_ _ h] at ht
    injection ht with ht
    injection ht with ht
    injection ht with ht
    exact ext_list ht.symm
/-- 'len(seen)'. -/
theorem len_seen {w : World} {I k : Nat} {mv : Value} {D : DataW Unit} {Sn : List (List UInt8)} (hg : Good D Sn) (hm : MapPart w I mv k D) (ty : TypeId) :
    (Builtin.len_ #[40] ty #[mv]).run Try.prog w = .ok (.int .i64 (dc Sn)) w := by
  rcases hm with ⟨rfl, rfl⟩ | ⟨m, rfl, _, ho⟩
  · obtain rfl := hg.nil
    exact Maps.len_nil Try.underlying40 ty
  · rw [← hg.size]
    exact ho.len Try.underlying40 ty

theorem lit_le {a k : Nat} (h : a ≤ k * 1048576) : a ≤ (k + 1) * 1048576 := Nat.le_trans h (Nat.mul_le_mul_right _ (Nat.le_succ _))
theorem St.mono {w : World} {I : Nat} {Sn : List (List UInt8)} {k : Nat} (h : St w I Sn k) : St w I Sn (k + 1) := by
  obtain ⟨mv, bv, D, h1, h2, h3, h4⟩ := h
  refine ⟨mv, bv, D, h1, h2, ?_, ?_⟩
  · exact h3.elim .inl (fun ⟨m, e, hlt, ho⟩ => .inr ⟨m, e, hlt, ho.mono (Nat.le_succ _)⟩)
  · exact h4.elim .inl (fun ⟨b, l, e, hlt, hb, hl⟩ => .inr ⟨b, l, e, hlt, hb, lit_le hl⟩)

end Go.Proofs.Qxb6604019a
