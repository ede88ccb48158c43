/-
  cloneExts, toHS: the walks that make a slice of structs.
-/
import Derived.Test.Qxb6603941aExts
import Derived.Deep.RegionWith
import Derived.Deep.Slices
namespace Go.Proofs.Qxb6603941a
open Go.RowKit Go.Deep
set_option linter.unusedVariables false

theorem info35 : (Try.prog.info? 35).map (fun i => (i.zero, i.size, i.bytes)) = some (some (.agg #[.int .u16 0, .slice none 0 0]), 2, 32) := by kernel_rfl
theorem info43 : (Try.prog.info? 43).map (fun i => (i.zero, i.size, i.bytes)) = some (some (.agg #[.int .u16 0, .slice none 0 0]), 2, 32) := by kernel_rfl

theorem make_pairs (t e : TypeId) (ht : Try.prog.underlying t = some (.slice e)) (hinfo : (Try.prog.info? e).map (fun i => (i.zero, i.size, i.bytes)) = some (some (.agg #[.int .u16 0, .slice none 0 0]), 2, 32)) (n : Nat) (hn : n ≤ 1048576) (w : World) :
    (Instr.makeSlice t (.int .i64 (n : Int)) (.int .i64 (n : Int))).run Try.prog w = .ok (.slice (some ⟨w.heap.size, 0, none⟩) n n) (w.alloc (.cells (madeCells #[.int .u16 0, .slice none 0 0] (n * 2)) e)) := by
  obtain ⟨i, hi, hzz⟩ := Option.map_eq_some_iff.1 hinfo
  simp only [Prod.mk.injEq] at hzz
  obtain ⟨hz, hs, hb⟩ := hzz
  have hr := run_make (P := Try.prog) w t e i _ ht hi hz .i64 .i64 n n (by omega) (Int.le_refl _) (by rw [hb]; omega) (by omega)
  rw [hs, Int.toNat_natCast] at hr
  exact hr

/-- Block b holds n pairs. -/
def Pairs (w : World) (b n : Nat) (X Y : Nat → Value) : Prop := b < w.heap.size ∧ ∀ i, i < n → (w.cell? ⟨b, i * 2, none⟩ = some (X i) ∧ w.cell? ⟨b, i * 2 + 1, none⟩ = some (Y i)) ∧ (w.frozen? ⟨b, i * 2, none⟩ = false ∧ w.frozen? ⟨b, i * 2 + 1, none⟩ = false)

theorem pairs_made (w : World) (e : TypeId) (n : Nat) : Pairs (w.alloc (.cells (madeCells #[.int .u16 0, .slice none 0 0] (n * 2)) e)) w.heap.size n (fun _ => .int .u16 0) (fun _ => .slice none 0 0) := by
  refine ⟨by simp, fun i hi => ⟨⟨?_, ?_⟩, ?_, ?_⟩⟩
  · rw [World.cell?_alloc_at _ _ _ _ rfl]
    have h : i * 2 < n * 2 := by omega
    have h2 : i * 2 % 2 = 0 := by omega
    simp [madeCells, h, h2]
  · rw [World.cell?_alloc_at _ _ _ _ rfl]
    have h : i * 2 + 1 < n * 2 := by omega
    have h2 : (i * 2 + 1) % 2 = 1 := by omega
    simp [madeCells, h, h2]
  · simp [go_sem]
  · simp [go_sem]

def updV (f : Nat → Value) (i : Nat) (v : Value) : Nat → Value := fun j => if j = i then v else f j
theorem pairs_set {w : World} {b n k : Nat} {X Y : Nat → Value} (h : Pairs w b n X Y) (hk : k < n) (x y : Value) :
    Pairs ((w.setCell ⟨b, k * 2, none⟩ x).setCell ⟨b, k * 2 + 1, none⟩ y) b n (updV X k x) (updV Y k y) := by
  refine ⟨by simpa using h.1, fun i hi => ⟨⟨?_, ?_⟩, ?_, ?_⟩⟩
  · rw [World.cell?_setCell_other _ _ _ _ (by intro e; injection e with _ e2; omega)]
    unfold updV
    by_cases e : i = k
    · subst e
      rw [World.cell?_setCell_same _ _ _ (h.2 i hi).1.1, if_pos rfl]
    · rw [World.cell?_setCell_other _ _ _ _ (by intro e; injection e with _ e2; omega), if_neg e]
      exact (h.2 i hi).1.1
  · unfold updV
    by_cases e : i = k
    · subst e
      rw [if_pos rfl]
      exact World.cell?_setCell_same _ _ _ (u := Y i) (by rw [World.cell?_setCell_other _ _ _ _ (by intro e; injection e with _ e2; omega)]; exact (h.2 i hi).1.2)
    · rw [World.cell?_setCell_other _ _ _ _ (by intro e; injection e with _ e2; omega), World.cell?_setCell_other _ _ _ _ (by intro e; injection e with _ e2; omega), if_neg e]
      exact (h.2 i hi).1.2
  · rw [World.frozen?_setCell, World.frozen?_setCell]; exact (h.2 i hi).2.1
  · rw [World.frozen?_setCell, World.frozen?_setCell]; exact (h.2 i hi).2.2
theorem pairs_old {B : Nat} {w w' : World} {b n : Nat} {X Y : Nat → Value} (h : Pairs w b n X Y) (hB : Below B w w') (hb : b < B) : Pairs w' b n X Y := by
  refine ⟨Nat.lt_of_lt_of_le h.1 hB.size, fun i hi => ?_⟩
  rw [hB.cell (p := ⟨b, _, none⟩) hb, hB.cell (p := ⟨b, _, none⟩) hb, hB.frozen (p := ⟨b, _, none⟩) hb, hB.frozen (p := ⟨b, _, none⟩) hb]
  exact h.2 i hi

theorem nilTest22 (w : World) (a : Option Addr) (n c : Nat) : (binOp .eql 22 (.slice a n c) (.slice none 0 0)).run Try.prog w = .ok (.bool a.isNone) w := Lib.run_eql_slice_nil (P := Try.prog) w 22 35 a n c 0 0 Try.underlying22

/-- A data slice's place is plain, or it is empty. -/
def Plain (a : Option Addr) (n : Nat) : Prop := n = 0 ∨ ∃ b o, a = some ⟨b, o, none⟩
/-- The first k elements have been copied. -/
def Done (T : Nat → Int) (L : Nat → Nat) (k : Nat) (X Y : Nat → Value) : Prop := ∀ i, i < k → X i = .int .u16 (T i) ∧ ∃ a', Y i = .slice a' (L i) (L i) ∧ Plain a' (L i)

theorem done_step {T : Nat → Int} {L : Nat → Nat} {k : Nat} {X Y : Nat → Value} {a' : Option Addr} (h : Done T L k X Y) (hp : Plain a' (L k)) : Done T L (k + 1) (updV X k (.int .u16 (T k))) (updV Y k (.slice a' (L k) (L k))) := by
  intro i hi
  unfold updV
  by_cases e : i = k
  · subst e
    rw [if_pos rfl, if_pos rfl]
    exact ⟨rfl, a', rfl, hp⟩
  · rw [if_neg e, if_neg e]
    exact h i (by omega)

set_option maxHeartbeats 2000000 in
theorem cloneExts_some (b off n c : Nat) (T : Nat → Int) (A : Nat → Option Addr) (L C : Nat → Nat) (F : Nat → Nat → Int) (w : World) (hn : n ≤ 1048576) (hL : Hid (∀ i, i < n → L i ≤ 1048576)) (hbs : b < w.heap.size)
    (hc : Hid (∀ i, i < n → w.cell? ⟨b, off + i * 2, none⟩ = some (.int .u16 (T i)) ∧ w.cell? ⟨b, off + i * 2 + 1, none⟩ = some (.slice (A i) (L i) (C i)))) (hF : Hid (∀ i, i < n → Bytes w (A i) (L i) (F i))) :
    Calls Try.prog 7 #[.slice (some ⟨b, off, none⟩) n c] w fun e w' => e = .returned (.slice (some ⟨w.heap.size, 0, none⟩) n n) ∧ (∃ X Y, Pairs w' w.heap.size n X Y ∧ Done T L n X Y) ∧ Below w.heap.size w w' := by
  have hmk := fun w1 => make_pairs 22 35 Try.underlying22 info35 n hn w1
  have hnil := nilTest22
  go_enter Try.func7, Try.ntmps7
  go_wp2
  clear hmk hnil
  have HA := Lib.hid (pairs_made w 35 n)
  go_loopw [4] (fun i wr => ∃ (k : Nat) (X Y : Nat → Value), k ≤ n ∧ i = .int .i64 k ∧ Hid (Pairs wr w.heap.size n X Y) ∧ Hid (Done T L k X Y) ∧ Below w.heap.size w wr) (fun i _ => n - (intOf i).toNat)
  case atStart => exact ⟨0, _, _, by omega, rfl, HA, Lib.hid (fun i hi => by omega), (Below.refl _ _).alloc (Nat.le_refl _) _⟩
  case round =>
    obtain ⟨k, X, Y, hk, rfl, HR, HD, hbl⟩ := hrel
    by_cases hlt : k < n
    · obtain ⟨q1, q2⟩ := hc.out k hlt
      have g1 : wr.cell? ⟨b, off + k * 2, none⟩ = some (.int .u16 (T k)) := by rw [hbl.cell (p := ⟨b, _, none⟩) hbs]; exact q1
      have g2 : wr.cell? ⟨b, off + k * 2 + 1, none⟩ = some (.slice (A k) (L k) (C k)) := by rw [hbl.cell (p := ⟨b, _, none⟩) hbs]; exact q2
      clear q1 q2
      have hLk := hL.out k hlt
      have HF := Lib.hid ((hF.out k hlt).old hbl)
      have hbz : b < wr.heap.size := Nat.lt_of_lt_of_le hbs hbl.size
      have hcall : Calls Try.prog 13 #[.slice (A k) (L k) (C k)] wr.drew fun e w1 => ∃ a' : Option Addr, e = .returned (.slice a' (L k) (L k)) ∧ Plain a' (L k) ∧ w1.cell? ⟨b, off + k * 2, none⟩ = some (.int .u16 (T k)) ∧ w1.cell? ⟨w.heap.size, k * 2, none⟩ = some (X k) ∧ w1.cell? ⟨w.heap.size, k * 2 + 1, none⟩ = some (Y k) ∧ w1.frozen? ⟨w.heap.size, k * 2, none⟩ = false ∧ w1.frozen? ⟨w.heap.size, k * 2 + 1, none⟩ = false ∧ Hid (Pairs w1 w.heap.size n X Y) ∧ Below w.heap.size w w1 := by
        refine (clone_any (A k) (L k) (C k) (F k) wr.drew hLk HF.out).mono ?_
        rintro e w1 ⟨a', rfl, hr, hb0⟩
        have hb : Below wr.heap.size wr w1 := ⟨hb0.os, hb0.tape, hb0.output, hb0.size, hb0.block⟩
        have j2 : Pairs w1 w.heap.size n X Y := pairs_old (w := wr) HR.out hb HR.out.1
        refine ⟨a', rfl, ?_, (hb.cell (p := ⟨b, off + k * 2, none⟩) hbz).trans g1, (j2.2 k hlt).1.1, (j2.2 k hlt).1.2, (j2.2 k hlt).2.1, (j2.2 k hlt).2.2, Lib.hid j2, hbl.trans (hb.mono hbl.size)⟩
        rcases hr with hr | ⟨hr, _⟩
        · exact .inl hr
        · exact .inr ⟨_, _, hr⟩
      go_wp2
      go_region_with (go_at_call 13; refine hcall.mono ?_; rintro e w1 ⟨a', rfl, hp, j1, j3, j4, j5, j6, J, hb⟩)
      all_goals
        go_wp2
        go_roundw
        case rel => exact ⟨k + 1, _, _, by omega, by go_num, Lib.hid (pairs_set J.out hlt _ _), Lib.hid (done_step HD.out hp), (hb.setCell (Nat.le_refl _) _).setCell (Nat.le_refl _) _⟩
        case measure => simp [intOf]; omega
    · obtain rfl : n = k := by omega
      go_wp2
      go_ret
      exact ⟨rfl, ⟨X, Y, HR.out, HD.out⟩, hbl⟩

set_option maxHeartbeats 1000000 in
theorem cloneExts_none (a : Option Addr) (c : Nat) (w : World) :
    Calls Try.prog 7 #[.slice a 0 c] w fun e w' => ∃ a' : Option Addr, e = .returned (.slice a' 0 0) ∧ Below w.heap.size w w' := by
  have hmk := fun w1 => make_pairs 22 35 Try.underlying22 info35 0 (by omega) w1
  have e0 : ((0 : Nat) : Int) = 0 := rfl
  rw [e0] at hmk
  have hnil := nilTest22
  cases a with
  | none =>
    go_enter Try.func7, Try.ntmps7
    go_wp2
    go_ret
    exact ⟨none, rfl, Below.refl _ _⟩
  | some x =>
    go_enter Try.func7, Try.ntmps7
    go_wp2
    clear hmk hnil
    go_loopw [4] (fun i wr => i = .int .i64 0 ∧ Below w.heap.size w wr) (fun i _ => 0)
    case atStart => exact ⟨rfl, (Below.refl _ _).alloc (Nat.le_refl _) _⟩
    case round =>
      obtain ⟨rfl, hbl⟩ := hrel
      go_wp2
      go_ret
      exact ⟨_, rfl, hbl⟩

/-- cloneExts, WHOLE: the types are kept, each data slice is a plain place or empty. -/
theorem cloneExts_any (a : Option Addr) (n c : Nat) (T : Nat → Int) (A : Nat → Option Addr) (L C : Nat → Nat) (F : Nat → Nat → Int) (w : World) (hn : n ≤ 1048576) (hL : ∀ i, i < n → L i ≤ 1048576)
    (h : Exts w a n T A L C) (hF : ∀ i, i < n → Bytes w (A i) (L i) (F i)) :
    Calls Try.prog 7 #[.slice a n c] w fun e w' => ∃ (a' : Option Addr) (A' : Nat → Option Addr), e = .returned (.slice a' n n) ∧ Exts w' a' n T A' L L ∧ (∀ i, i < n → Plain (A' i) (L i)) ∧ Below w.heap.size w w' := by
  rcases h with rfl | ⟨b, off, rfl, hb, hc⟩
  · refine (cloneExts_none a c w).mono ?_
    rintro e w' ⟨a', he, hbl⟩
    exact ⟨a', fun _ => none, he, .inl rfl, fun i hi => by omega, hbl⟩
  · refine (cloneExts_some b off n c T A L C F w hn (Lib.hid hL) hb (Lib.hid hc) (Lib.hid hF)).mono ?_
    rintro e w' ⟨he, ⟨X, Y, hP, hD⟩, hbl⟩
    obtain ⟨A', hA⟩ := choose_lt (n := n) (p := fun i a' => Y i = .slice a' (L i) (L i) ∧ Plain a' (L i)) (fun i hi => (hD i hi).2)
    refine ⟨_, A', he, .inr ⟨w.heap.size, 0, rfl, hP.1, fun i hi => ?_⟩, fun i hi => (hA i hi).2, hbl⟩
    rw [Nat.zero_add]
    exact ⟨(hP.2 i hi).1.1.trans (congrArg some (hD i hi).1), (hP.2 i hi).1.2.trans (congrArg some (hA i hi).1)⟩

/-! ### toHS -/
set_option maxHeartbeats 1000000 in
theorem new17 (t : Int) (a : Option Addr) (n c : Nat) (w : World) :
    Calls Try.prog 17 #[.int .u16 t, .slice a n c] w fun e w' => e = .returned (.agg #[.int .u16 t, .slice a n c]) ∧ Below w.heap.size w w' := by
  go_enter Try.func17, Try.ntmps17
  go_wp2
  exact bodyPost_ret (v := .agg #[.int .u16 t, .slice a n c]) (by simp [results, Try.results17, go_sem]) rfl ⟨rfl, (Below.refl _ _).alloc (Nat.le_refl _) _⟩

/-- The first k elements have been handed over. -/
def DoneS (T : Nat → Int) (A : Nat → Option Addr) (L C : Nat → Nat) (k : Nat) (X Y : Nat → Value) : Prop := ∀ i, i < k → X i = .int .u16 (T i) ∧ Y i = .slice (A i) (L i) (C i)
theorem doneS_step {T : Nat → Int} {A : Nat → Option Addr} {L C : Nat → Nat} {k : Nat} {X Y : Nat → Value} (h : DoneS T A L C k X Y) : DoneS T A L C (k + 1) (updV X k (.int .u16 (T k))) (updV Y k (.slice (A k) (L k) (C k))) := by
  intro i hi
  unfold updV
  by_cases e : i = k
  · subst e
    rw [if_pos rfl, if_pos rfl]
    exact ⟨rfl, rfl⟩
  · rw [if_neg e, if_neg e]
    exact h i (by omega)

set_option maxHeartbeats 2000000 in
theorem toHS_some (b off n c : Nat) (T : Nat → Int) (A : Nat → Option Addr) (L C : Nat → Nat) (w : World) (hn : n ≤ 1048576) (hbs : b < w.heap.size)
    (hc : Hid (∀ i, i < n → w.cell? ⟨b, off + i * 2, none⟩ = some (.int .u16 (T i)) ∧ w.cell? ⟨b, off + i * 2 + 1, none⟩ = some (.slice (A i) (L i) (C i)))) :
    Calls Try.prog 9 #[.slice (some ⟨b, off, none⟩) n c] w fun e w' => e = .returned (.slice (some ⟨w.heap.size, 0, none⟩) n n) ∧ (∃ X Y, Pairs w' w.heap.size n X Y ∧ DoneS T A L C n X Y) ∧ Below w.heap.size w w' := by
  have hmk := fun w1 => make_pairs 30 43 Try.underlying30 info43 n hn w1
  have hnil := nilTest22
  go_enter Try.func9, Try.ntmps9
  go_wp2
  clear hmk hnil
  have HA := Lib.hid (pairs_made w 43 n)
  go_loopw [4] (fun i wr => ∃ (k : Nat) (X Y : Nat → Value), k ≤ n ∧ i = .int .i64 k ∧ Hid (Pairs wr w.heap.size n X Y) ∧ Hid (DoneS T A L C k X Y) ∧ Below w.heap.size w wr) (fun i _ => n - (intOf i).toNat)
  case atStart => exact ⟨0, _, _, by omega, rfl, HA, Lib.hid (fun i hi => by omega), (Below.refl _ _).alloc (Nat.le_refl _) _⟩
  case round =>
    obtain ⟨k, X, Y, hk, rfl, HR, HD, hbl⟩ := hrel
    by_cases hlt : k < n
    · obtain ⟨q1, q2⟩ := hc.out k hlt
      have g1 : wr.cell? ⟨b, off + k * 2, none⟩ = some (.int .u16 (T k)) := by rw [hbl.cell (p := ⟨b, _, none⟩) hbs]; exact q1
      have g2 : wr.cell? ⟨b, off + k * 2 + 1, none⟩ = some (.slice (A k) (L k) (C k)) := by rw [hbl.cell (p := ⟨b, _, none⟩) hbs]; exact q2
      clear q1 q2
      have hcall : Calls Try.prog 17 #[.int .u16 (T k), .slice (A k) (L k) (C k)] wr.drew fun e w1 => e = .returned (.agg #[.int .u16 (T k), .slice (A k) (L k) (C k)]) ∧ w1.cell? ⟨w.heap.size, k * 2, none⟩ = some (X k) ∧ w1.cell? ⟨w.heap.size, k * 2 + 1, none⟩ = some (Y k) ∧ w1.frozen? ⟨w.heap.size, k * 2, none⟩ = false ∧ w1.frozen? ⟨w.heap.size, k * 2 + 1, none⟩ = false ∧ Hid (Pairs w1 w.heap.size n X Y) ∧ Below w.heap.size w w1 := by
        refine (new17 (T k) (A k) (L k) (C k) wr.drew).mono ?_
        rintro e w1 ⟨rfl, hb0⟩
        have hb : Below wr.heap.size wr w1 := ⟨hb0.os, hb0.tape, hb0.output, hb0.size, hb0.block⟩
        have j2 : Pairs w1 w.heap.size n X Y := pairs_old (w := wr) HR.out hb HR.out.1
        exact ⟨rfl, (j2.2 k hlt).1.1, (j2.2 k hlt).1.2, (j2.2 k hlt).2.1, (j2.2 k hlt).2.2, Lib.hid j2, hbl.trans (hb.mono hbl.size)⟩
      go_wp2
      go_region_with (go_at_call 17; refine hcall.mono ?_; rintro e w1 ⟨rfl, j3, j4, j5, j6, J, hb⟩)
      all_goals
        go_wp2
        go_roundw
        case rel => exact ⟨k + 1, _, _, by omega, by go_num, Lib.hid (pairs_set J.out hlt _ _), Lib.hid (doneS_step HD.out), (hb.setCell (Nat.le_refl _) _).setCell (Nat.le_refl _) _⟩
        case measure => simp [intOf]; omega
    · obtain rfl : n = k := by omega
      go_wp2
      go_ret
      exact ⟨rfl, ⟨X, Y, HR.out, HD.out⟩, hbl⟩

set_option maxHeartbeats 1000000 in
theorem toHS_none (a : Option Addr) (c : Nat) (w : World) :
    Calls Try.prog 9 #[.slice a 0 c] w fun e w' => ∃ a' : Option Addr, e = .returned (.slice a' 0 0) ∧ Below w.heap.size w w' := by
  have hmk := fun w1 => make_pairs 30 43 Try.underlying30 info43 0 (by omega) w1
  have e0 : ((0 : Nat) : Int) = 0 := rfl
  rw [e0] at hmk
  have hnil := nilTest22
  cases a with
  | none =>
    go_enter Try.func9, Try.ntmps9
    go_wp2
    go_ret
    exact ⟨none, rfl, Below.refl _ _⟩
  | some x =>
    go_enter Try.func9, Try.ntmps9
    go_wp2
    clear hmk hnil
    go_loopw [4] (fun i wr => i = .int .i64 0 ∧ Below w.heap.size w wr) (fun i _ => 0)
    case atStart => exact ⟨rfl, (Below.refl _ _).alloc (Nat.le_refl _) _⟩
    case round =>
      obtain ⟨rfl, hbl⟩ := hrel
      go_wp2
      go_ret
      exact ⟨_, rfl, hbl⟩

/-- toHS, WHOLE: the very types and data slices. -/
theorem toHS_any (a : Option Addr) (n c : Nat) (T : Nat → Int) (A : Nat → Option Addr) (L C : Nat → Nat) (w : World) (hn : n ≤ 1048576) (h : Exts w a n T A L C) :
    Calls Try.prog 9 #[.slice a n c] w fun e w' => ∃ a' : Option Addr, e = .returned (.slice a' n n) ∧ Exts w' a' n T A L C ∧ Below w.heap.size w w' := by
  rcases h with rfl | ⟨b, off, rfl, hb, hc⟩
  · refine (toHS_none a c w).mono ?_
    rintro e w' ⟨a', he, hbl⟩
    exact ⟨a', he, .inl rfl, hbl⟩
  · refine (toHS_some b off n c T A L C w hn hb (Lib.hid hc)).mono ?_
    rintro e w' ⟨he, ⟨X, Y, hP, hD⟩, hbl⟩
    refine ⟨_, he, .inr ⟨w.heap.size, 0, rfl, hP.1, fun i hi => ?_⟩, hbl⟩
    rw [Nat.zero_add]
    exact ⟨(hP.2 i hi).1.1.trans (congrArg some (hD i hi).1), (hP.2 i hi).1.2.trans (congrArg some (hD i hi).2)⟩

end Go.Proofs.Qxb6603941a
