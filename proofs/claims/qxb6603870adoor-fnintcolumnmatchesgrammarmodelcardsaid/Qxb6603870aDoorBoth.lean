/-
  intColumn AND ITS MODEL, WHOLE: each computes the same plain function.
-/
import Derived.Test.Qxb6603870aDoorFacts
import Derived.Test.Qxb6603870aDoorModel
import Derived.Test.Qxb6603870aDoorCol
import Derived.WalkSmall
namespace Go.Proofs.Qxb6603870aDoor
open Go.RowKit
set_option linter.unusedVariables false
set_option linter.unusedSimpArgs false

theorem colYesA (r : ByteArray) (n : Int) (h : good r.data.toList = true) : colOk r = true := h
theorem colYesB (r : ByteArray) (n : Int) (h : good r.data.toList = true) : colRest r = r.extract (en r.data.toList) r.size := by unfold colRest; rw [if_pos h]
theorem colYesC (r : ByteArray) (n : Int) (h : good r.data.toList = true) : colNum r n = value r.data.toList := by unfold colNum; rw [if_pos h]
theorem colNoA (r : ByteArray) (n : Int) (h : good r.data.toList = false) : colOk r = false := h
theorem colNoB (r : ByteArray) (n : Int) (h : good r.data.toList = false) : colRest r = r := by unfold colRest; rw [h]; rfl
theorem colNoC (r : ByteArray) (n : Int) (h : good r.data.toList = false) : colNum r n = n := by unfold colNum; rw [h]; rfl
def tri (a : Bool) (s : ByteArray) (n : Int) : Ending := .returned (.tuple #[.bool a, .string s, .int .i64 n])
def colTri (r : ByteArray) (n : Int) : Ending := tri (colOk r) (colRest r) (colNum r n)
theorem colYes (r : ByteArray) (n : Int) (h : good r.data.toList = true) : colTri r n = .returned (.tuple #[.bool true, .string (r.extract (en r.data.toList) r.size), .int .i64 (value r.data.toList)]) := by
  unfold colTri tri; rw [colYesA r n h, colYesB r n h, colYesC r n h]
theorem colNo (r : ByteArray) (n : Int) (h : good r.data.toList = false) : colTri r n = .returned (.tuple #[.bool false, .string r, .int .i64 n]) := by
  unfold colTri tri; rw [colNoA r n h, colNoB r n h, colNoC r n h]

theorem small0 (r : ByteArray) (hz : st r.data.toList = 0) (h1 : 0 < en r.data.toList) (h2 : en r.data.toList ≤ 1) (hzs : 0 < r.size) (h0 : ((r[0].toNat : Int) == 48) = true) : vl r.data.toList ≤ lim r.data.toList := by
  have hs := mg_step r 0 (by omega) h1 hzs
  have h3 := mg_zero r
  have h4 := mg_end r
  have e : en r.data.toList = 1 := by omega
  rw [hz] at h3
  rw [e] at h4
  have h5 : (r[0].toNat : Int) = 48 := by simpa using h0
  have h6 : vl r.data.toList = 0 := by
    have : (0 + 1 : Nat) = 1 := rfl
    simp only [Nat.reduceAdd] at hs
    omega
  omega
theorem small1 (r : ByteArray) (hz : st r.data.toList = 1) (h1 : 1 < en r.data.toList) (h2 : en r.data.toList ≤ 2) (hzs : 1 < r.size) (h0 : ((r[1].toNat : Int) == 48) = true) : vl r.data.toList ≤ lim r.data.toList := by
  have hs := mg_step r 1 (by omega) h1 hzs
  have h3 := mg_zero r
  have h4 := mg_end r
  have e : en r.data.toList = 2 := by omega
  rw [hz] at h3
  rw [e] at h4
  have h5 : (r[1].toNat : Int) = 48 := by simpa using h0
  have h6 : vl r.data.toList = 0 := by
    have : (0 + 1 : Nat) = 1 := rfl
    simp only [Nat.reduceAdd] at hs
    omega
  omega

theorem model_col (s p r : ByteArray) (n : Int) (w : World) (hs : s.size ≤ 1048576) (hple : p.size ≤ s.size) (hpe : ((s.extract 0 p.size).toList == p.toList) = true) (hr : s.extract p.size s.size = r) (hmax : r.size ≤ 1048576) :
    Calls Tryd.prog 17 #[.string s, .string p, .int .i64 n] w fun e w' => e = colTri r n ∧ Below w.heap.size w w' := by
  rcases st_01 r.data.toList with hz | hz
  · have hsg := Lib.hid (fun h => f_sign0 r hz h)
    have hE0 : 0 ≤ en r.data.toList := by have := st_le_en r.data.toList; omega
    have hE := f_en_le r
    have hstep : Hid (∀ k, 0 ≤ k → k < en r.data.toList → ∃ h : k < r.size, isDg r[k] = true) := Lib.hid (fun k h1 h2 => f_step r k (by omega) h2)
    have hend : Hid (∀ h : en r.data.toList < r.size, isDg r[en r.data.toList] = false) := Lib.hid (fun h => f_end r h)
    have hL : lim r.data.toList = 9223372036854775807 := by unfold lim; rw [hz]; rfl
    have hm0 : Hid (mg r 0 = 0) := Lib.hid (by have := mg_zero r; rwa [hz] at this)
    have hmS : Hid (∀ k, 0 ≤ k → k < en r.data.toList → ∀ h : k < r.size, mg r (k + 1) = mg r k * 10 + ((r[k].toNat : Int) - 48)) := Lib.hid (fun k h1 h2 h => mg_step r k (by omega) h2 h)
    have hmE := mg_end r
    have hval : value r.data.toList = mg r (en r.data.toList) := by unfold value; rw [hz, hmE]; simp
    by_cases c1 : en r.data.toList ≤ 0
    · rw [colNo r n (good_none r (by omega))]
      exact md_none0 s p r n w (en r.data.toList) hs hple hpe hr hmax hsg hE0 hE hstep hend c1
    · have hzs : 0 < r.size := by omega
      cases c2 : ((r[0].toNat : Int) == 48)
      · by_cases c3 : vl r.data.toList ≤ lim r.data.toList
        · rw [colYes r n (good_yes r (by omega) (by omega) (Or.inl (by simp only [hz]; exact c2)) c3), hval]
          exact md_okL0 s p r n w (en r.data.toList) hs hple hpe hr hmax hsg hE0 hE hstep hend (by omega) (mg r) hm0 hmS (Lib.hid (fun k _ _ => ⟨mg_pos r k, by have := mg_le r k; omega⟩)) (fun _ => c2)
        · rw [colNo r n (good_over r (by omega))]
          exact md_rgL0 s p r n w (en r.data.toList) hs hple hpe hr hmax hsg hE0 hE hstep hend (by omega) (mg r) hm0 hmS (Lib.hid (fun k _ _ => mg_pos r k)) (Lib.hid (by rw [hmE]; omega)) (fun _ => c2)
      · by_cases c4 : en r.data.toList ≤ 1
        · have hv : vl r.data.toList ≤ lim r.data.toList := small0 r hz (by omega) c4 hzs c2
          rw [colYes r n (good_yes r (by omega) (by omega) (Or.inr (by omega)) hv), hval]
          exact md_okZ0 s p r n w (en r.data.toList) hs hple hpe hr hmax hsg hE0 hE hstep hend (by omega) (mg r) hm0 hmS (Lib.hid (fun k _ _ => ⟨mg_pos r k, by have := mg_le r k; omega⟩)) c4 (fun _ => c2)
        · rw [colNo r n (good_zero r (by omega) (by omega) (by simp only [hz]; exact c2))]
          exact md_zero0 s p r n w (en r.data.toList) hs hple hpe hr hmax hsg hE0 hE hstep hend (by omega) (fun _ => c2)
  · obtain ⟨hr0, hsg⟩ := f_sign1 r hz
    have hE0 : 1 ≤ en r.data.toList := by have := st_le_en r.data.toList; omega
    have hE := f_en_le r
    have hstep : Hid (∀ k, 1 ≤ k → k < en r.data.toList → ∃ h : k < r.size, isDg r[k] = true) := Lib.hid (fun k h1 h2 => f_step r k (by omega) h2)
    have hend : Hid (∀ h : en r.data.toList < r.size, isDg r[en r.data.toList] = false) := Lib.hid (fun h => f_end r h)
    have hL : lim r.data.toList = 9223372036854775808 := by unfold lim; rw [hz]; rfl
    have hm0 : Hid (mg r 1 = 0) := Lib.hid (by have := mg_zero r; rwa [hz] at this)
    have hmS : Hid (∀ k, 1 ≤ k → k < en r.data.toList → ∀ h : k < r.size, mg r (k + 1) = mg r k * 10 + ((r[k].toNat : Int) - 48)) := Lib.hid (fun k h1 h2 h => mg_step r k (by omega) h2 h)
    have hmE := mg_end r
    have hval : value r.data.toList = -(mg r (en r.data.toList)) := by unfold value; rw [hz, hmE]; simp
    by_cases c1 : en r.data.toList ≤ 1
    · rw [colNo r n (good_none r (by omega))]
      exact md_none1 s p r n w (en r.data.toList) hs hple hpe hr hmax hr0 hsg hE0 hE hstep hend c1
    · have hzs : 1 < r.size := by omega
      cases c2 : ((r[1].toNat : Int) == 48)
      · by_cases c3 : vl r.data.toList ≤ lim r.data.toList
        · rw [colYes r n (good_yes r (by omega) (by omega) (Or.inl (by simp only [hz]; exact c2)) c3), hval]
          exact md_okL1 s p r n w (en r.data.toList) hs hple hpe hr hmax hr0 hsg hE0 hE hstep hend (by omega) (mg r) hm0 hmS (Lib.hid (fun k _ _ => ⟨mg_pos r k, by have := mg_le r k; omega⟩)) (fun _ => c2)
        · rw [colNo r n (good_over r (by omega))]
          exact md_rgL1 s p r n w (en r.data.toList) hs hple hpe hr hmax hr0 hsg hE0 hE hstep hend (by omega) (mg r) hm0 hmS (Lib.hid (fun k _ _ => mg_pos r k)) (Lib.hid (by rw [hmE]; omega)) (fun _ => c2)
      · by_cases c4 : en r.data.toList ≤ 2
        · have hv : vl r.data.toList ≤ lim r.data.toList := small1 r hz (by omega) c4 hzs c2
          rw [colYes r n (good_yes r (by omega) (by omega) (Or.inr (by omega)) hv), hval]
          exact md_okZ1 s p r n w (en r.data.toList) hs hple hpe hr hmax hr0 hsg hE0 hE hstep hend (by omega) (mg r) hm0 hmS (Lib.hid (fun k _ _ => ⟨mg_pos r k, by have := mg_le r k; omega⟩)) c4 (fun _ => c2)
        · rw [colNo r n (good_zero r (by omega) (by omega) (by simp only [hz]; exact c2))]
          exact md_zero1 s p r n w (en r.data.toList) hs hple hpe hr hmax hr0 hsg hE0 hE hstep hend (by omega) (fun _ => c2)

theorem pre_parts {s p : ByteArray} (h : pre s p = true) : p.size ≤ s.size ∧ ((s.extract 0 p.size).toList == p.toList) = true := by
  unfold pre at h
  simpa only [Bool.and_eq_true, decide_eq_true_eq] using h
def fullTri (s p : ByteArray) (n : Int) : Ending := tri (fullOk s p) (fullRest s p) (fullNum s p n)
theorem full_yes {s p : ByteArray} (n : Int) (h : pre s p = true) : fullTri s p n = colTri (s.extract p.size s.size) n := by
  unfold fullTri fullOk fullRest fullNum colTri
  rw [h]
  simp
theorem full_no {s p : ByteArray} (n : Int) (h : pre s p = false) : fullTri s p n = .returned (.tuple #[.bool false, .string s, .int .i64 n]) := by
  unfold fullTri fullOk fullRest fullNum tri
  rw [h]
  simp
theorem tail_le {s p : ByteArray} (hs : s.size ≤ 1048576) : (s.extract p.size s.size).size ≤ 1048576 := by
  rw [ByteArray.size_extract]
  omega

/-- intColumnModelB1, WHOLE. -/
theorem model_any (s p : ByteArray) (n : Int) (w : World) (hs : s.size ≤ 1048576) (hp : p.size ≤ 1048576) :
    Calls Tryd.prog 17 #[.string s, .string p, .int .i64 n] w fun e w' => e = fullTri s p n ∧ Below w.heap.size w w' := by
  cases h : pre s p
  · rw [full_no n h]
    exact md_no s p n w hs hp h
  · rw [full_yes n h]
    exact model_col s p _ n w hs (pre_parts h).1 (pre_parts h).2 rfl (tail_le hs)

theorem column_col (b : Nat) (p r : ByteArray) (n : Int) (w W : World) (c : Nat) (hmax : r.size ≤ 4194304)
    (htake : Calls Tryd.prog 27 #[.pointer (some ⟨b, 0, none⟩), .string p] w fun e w' => e = .returned (.bool true) ∧ w' = W)
    (hc : W.cell? ⟨b, 0, none⟩ = some (.string r)) (tp : TypeId) (pv : Value) (hvar : W.var? Tryd.prog "strconv.ErrRange" = some #[.iface tp pv])
    (B : Nat) (hBb : B ≤ b) (hBc : B ≤ c) (hBs : B ≤ W.heap.size) (hbs : b < W.heap.size) (hcs : c < W.heap.size) (hbc : b ≠ c)
    (hcn : W.cell? ⟨c, 0, none⟩ = some (.int .i64 n)) (hfb : W.frozen? ⟨b, 0, none⟩ = false) (hfc : W.frozen? ⟨c, 0, none⟩ = false) :
    Calls Tryd.prog 24 #[.pointer (some ⟨b, 0, none⟩), .string p, .pointer (some ⟨c, 0, none⟩)] w fun e w' => e = .returned (.bool (colOk r)) ∧ w'.cell? ⟨b, 0, none⟩ = some (.string (colRest r)) ∧ w'.cell? ⟨c, 0, none⟩ = some (.int .i64 (colNum r n)) ∧ Below B W w' := by
  rcases st_01 r.data.toList with hz | hz
  · have hE0 : 0 ≤ en r.data.toList := by have := st_le_en r.data.toList; omega
    have hE := f_en_le r
    have hstep : Hid (∀ k, 0 ≤ k → k < en r.data.toList → ∃ h : k < r.size, isDg r[k] = true) := Lib.hid (fun k h1 h2 => f_step r k (by omega) h2)
    have hend : Hid (∀ h : en r.data.toList < r.size, isDg r[en r.data.toList] = false) := Lib.hid (fun h => f_end r h)
    have hL : lim r.data.toList = 9223372036854775807 := by unfold lim; rw [hz]; rfl
    have hm0 : Hid (mg r 0 = 0) := Lib.hid (by have := mg_zero r; rwa [hz] at this)
    have hmS : Hid (∀ k, 0 ≤ k → k < en r.data.toList → ∀ h : k < r.size, mg r (k + 1) = mg r k * 10 + ((r[k].toNat : Int) - 48)) := Lib.hid (fun k h1 h2 h => mg_step r k (by omega) h2 h)
    have hmE := mg_end r
    have hval : value r.data.toList = mg r (en r.data.toList) := by unfold value; rw [hz, hmE]; simp
    have hstepI : Hid (∀ k, 0 ≤ k → k < en r.data.toList → ∃ h : k < r.size, 48 ≤ (r[k].toNat : Int) ∧ (r[k].toNat : Int) ≤ 57) := Lib.hid (fun k h1 h2 => by obtain ⟨h, hd⟩ := hstep.out k h1 h2; exact ⟨h, isDg_bounds hd⟩)
    have hendI : Hid (∀ h : en r.data.toList < r.size, (r[en r.data.toList].toNat : Int) < 48 ∨ 57 < (r[en r.data.toList].toNat : Int)) := Lib.hid (fun h => isDg_bounds_no (hend.out h))
    have hsgn : ∀ w : World, Calls Tryd.prog 28 #[.string r, .string ⟨#[45]⟩] w fun e w' => e = .returned (.bool false) ∧ w' = w := fun w => hasPrefix_no r _ w (by omega) (by decide) (by rw [f_minus, hz]; rfl)
    by_cases c1 : en r.data.toList ≤ 0
    · rw [colNoA r n (good_none r (by omega)), colNoB r n (good_none r (by omega)), colNoC r n (good_none r (by omega))]
      exact (ic_none0 b p r n w W c (en r.data.toList) hmax htake hsgn hc hE0 hE hstepI hendI c1).mono fun e w' ⟨he, hw⟩ => by subst hw; exact ⟨he, hc, hcn, Below.refl _ _⟩
    · have hzs : 0 < r.size := by omega
      have fat := f_atoi r (by omega)
      cases c2 : ((r[0].toNat : Int) == 48)
      · by_cases c3 : vl r.data.toList ≤ lim r.data.toList
        · have hg := good_yes r (by omega) (by omega) (Or.inl (by simp only [hz]; exact c2)) c3
          rw [colYesA r n hg, colYesB r n hg, colYesC r n hg]
          rw [if_pos c3] at fat
          exact ic_ok0 b p r n w W c (en r.data.toList) hmax htake hsgn hc hE0 hE hstepI hendI (by omega) hzs (Lib.hid (Or.inl c2)) _ (Lib.hid fat) B hBb hBc hBs hbs hcs hbc hcn hfb hfc
        · have hg := good_over r (by omega)
          rw [colNoA r n hg, colNoB r n hg, colNoC r n hg]
          rw [if_neg c3] at fat
          exact (ic_range0 b p r n w W c (en r.data.toList) hmax htake hsgn hc hE0 hE hstepI hendI (by omega) hzs (Lib.hid (Or.inl c2)) tp pv hvar (Lib.hid fat)).mono fun e w' ⟨he, hb⟩ => ⟨he, by rw [hb.cell hbs]; exact hc, by rw [hb.cell hcs]; exact hcn, hb.mono hBs⟩
      · by_cases c4 : en r.data.toList ≤ 1
        · have hv : vl r.data.toList ≤ lim r.data.toList := small0 r hz (by omega) c4 hzs c2
          have hg := good_yes r (by omega) (by omega) (Or.inr (by omega)) hv
          rw [colYesA r n hg, colYesB r n hg, colYesC r n hg]
          rw [if_pos hv] at fat
          exact ic_ok0 b p r n w W c (en r.data.toList) hmax htake hsgn hc hE0 hE hstepI hendI (by omega) hzs (Lib.hid (Or.inr ⟨c2, by simp; omega, c4⟩)) _ (Lib.hid fat) B hBb hBc hBs hbs hcs hbc hcn hfb hfc
        · have hg := good_zero r (by omega) (by omega) (by simp only [hz]; exact c2)
          rw [colNoA r n hg, colNoB r n hg, colNoC r n hg]
          exact (ic_zero0 b p r n w W c (en r.data.toList) hmax htake hsgn hc hE0 hE hstepI hendI (by omega) hzs (by simpa using c2)).mono fun e w' ⟨he, hw⟩ => by subst hw; exact ⟨he, hc, hcn, Below.refl _ _⟩
  · have hE0 : 1 ≤ en r.data.toList := by have := st_le_en r.data.toList; omega
    have hE := f_en_le r
    have hstep : Hid (∀ k, 1 ≤ k → k < en r.data.toList → ∃ h : k < r.size, isDg r[k] = true) := Lib.hid (fun k h1 h2 => f_step r k (by omega) h2)
    have hend : Hid (∀ h : en r.data.toList < r.size, isDg r[en r.data.toList] = false) := Lib.hid (fun h => f_end r h)
    have hL : lim r.data.toList = 9223372036854775808 := by unfold lim; rw [hz]; rfl
    have hm0 : Hid (mg r 1 = 0) := Lib.hid (by have := mg_zero r; rwa [hz] at this)
    have hmS : Hid (∀ k, 1 ≤ k → k < en r.data.toList → ∀ h : k < r.size, mg r (k + 1) = mg r k * 10 + ((r[k].toNat : Int) - 48)) := Lib.hid (fun k h1 h2 h => mg_step r k (by omega) h2 h)
    have hmE := mg_end r
    have hval : value r.data.toList = -(mg r (en r.data.toList)) := by unfold value; rw [hz, hmE]; simp
    have hstepI : Hid (∀ k, 1 ≤ k → k < en r.data.toList → ∃ h : k < r.size, 48 ≤ (r[k].toNat : Int) ∧ (r[k].toNat : Int) ≤ 57) := Lib.hid (fun k h1 h2 => by obtain ⟨h, hd⟩ := hstep.out k h1 h2; exact ⟨h, isDg_bounds hd⟩)
    have hendI : Hid (∀ h : en r.data.toList < r.size, (r[en r.data.toList].toNat : Int) < 48 ∨ 57 < (r[en r.data.toList].toNat : Int)) := Lib.hid (fun h => isDg_bounds_no (hend.out h))
    have hsgn : ∀ w : World, Calls Tryd.prog 28 #[.string r, .string ⟨#[45]⟩] w fun e w' => e = .returned (.bool true) ∧ w' = w := fun w => hasPrefix_yes r _ w (by omega) (by decide) (by rw [f_minus, hz]; rfl)
    by_cases c1 : en r.data.toList ≤ 1
    · rw [colNoA r n (good_none r (by omega)), colNoB r n (good_none r (by omega)), colNoC r n (good_none r (by omega))]
      exact (ic_none1 b p r n w W c (en r.data.toList) hmax htake hsgn hc hE0 hE hstepI hendI c1).mono fun e w' ⟨he, hw⟩ => by subst hw; exact ⟨he, hc, hcn, Below.refl _ _⟩
    · have hzs : 1 < r.size := by omega
      have fat := f_atoi r (by omega)
      cases c2 : ((r[1].toNat : Int) == 48)
      · by_cases c3 : vl r.data.toList ≤ lim r.data.toList
        · have hg := good_yes r (by omega) (by omega) (Or.inl (by simp only [hz]; exact c2)) c3
          rw [colYesA r n hg, colYesB r n hg, colYesC r n hg]
          rw [if_pos c3] at fat
          exact ic_ok1 b p r n w W c (en r.data.toList) hmax htake hsgn hc hE0 hE hstepI hendI (by omega) hzs (Lib.hid (Or.inl c2)) _ (Lib.hid fat) B hBb hBc hBs hbs hcs hbc hcn hfb hfc
        · have hg := good_over r (by omega)
          rw [colNoA r n hg, colNoB r n hg, colNoC r n hg]
          rw [if_neg c3] at fat
          exact (ic_range1 b p r n w W c (en r.data.toList) hmax htake hsgn hc hE0 hE hstepI hendI (by omega) hzs (Lib.hid (Or.inl c2)) tp pv hvar (Lib.hid fat)).mono fun e w' ⟨he, hb⟩ => ⟨he, by rw [hb.cell hbs]; exact hc, by rw [hb.cell hcs]; exact hcn, hb.mono hBs⟩
      · by_cases c4 : en r.data.toList ≤ 2
        · have hv : vl r.data.toList ≤ lim r.data.toList := small1 r hz (by omega) c4 hzs c2
          have hg := good_yes r (by omega) (by omega) (Or.inr (by omega)) hv
          rw [colYesA r n hg, colYesB r n hg, colYesC r n hg]
          rw [if_pos hv] at fat
          exact ic_ok1 b p r n w W c (en r.data.toList) hmax htake hsgn hc hE0 hE hstepI hendI (by omega) hzs (Lib.hid (Or.inr ⟨c2, by simp; omega, c4⟩)) _ (Lib.hid fat) B hBb hBc hBs hbs hcs hbc hcn hfb hfc
        · have hg := good_zero r (by omega) (by omega) (by simp only [hz]; exact c2)
          rw [colNoA r n hg, colNoB r n hg, colNoC r n hg]
          exact (ic_zero1 b p r n w W c (en r.data.toList) hmax htake hsgn hc hE0 hE hstepI hendI (by omega) hzs (by simpa using c2)).mono fun e w' ⟨he, hw⟩ => by subst hw; exact ⟨he, hc, hcn, Below.refl _ _⟩

end Go.Proofs.Qxb6603870aDoor
