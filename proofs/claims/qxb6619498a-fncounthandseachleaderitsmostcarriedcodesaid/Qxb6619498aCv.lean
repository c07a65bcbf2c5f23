import Derived.Test.Qxb6619498aCpl
import Derived.Test.Qxb6619498aWire
namespace Go.Proofs.Qxb6619498a
open Go.RowKit

/-- A row of n ints. -/
def intsOf (n : Nat) (f : Nat → Nat) : Array Value := ((List.range n).map fun i => Value.int .i64 (f i : Int)).toArray
theorem intsOf_size (n : Nat) (f : Nat → Nat) : (intsOf n f).size = n := by simp [intsOf]
theorem intsOf_get {n i : Nat} (f : Nat → Nat) (h : i < n) : (intsOf n f)[i]? = some (.int .i64 (f i : Int)) := by simp [intsOf, h]
theorem intsOf_congr {n : Nat} {f g : Nat → Nat} (h : ∀ i, i < n → f i = g i) : intsOf n f = intsOf n g := by
  unfold intsOf
  congr 1
  refine List.map_congr_left fun i hi => ?_
  rw [h i (List.mem_range.1 hi)]
theorem intsOf_set {n i : Nat} (f : Nat → Nat) (x : Nat) : (intsOf n f).setIfInBounds i (.int .i64 (x : Int)) = intsOf n (fun j => if j = i then x else f j) := by
  apply Array.ext
  · simp [intsOf]
  · intro j h1 h2
    have hj : j < n := by simpa [intsOf] using h2
    rw [Array.getElem_setIfInBounds]
    simp only [intsOf, List.getElem_toArray, List.getElem_map, List.getElem_range]
    by_cases hji : i = j
    · subst hji; simp
    · have : ¬ j = i := fun e => hji e.symm
      simp [hji, this]
    · simpa [intsOf] using hj

/-- A cast. -/
structure CD where
  leader : Int
  next : Int
  sends : Bool
  gv : Int
  gc : Int
  graded : Bool
def CastsIn (C : Array Value) (cds : List CD) : Prop :=
  C.size = cds.length * 6 ∧ ∀ q (h : q < cds.length), C[q * 6]? = some (.int .i64 cds[q].leader) ∧ C[q * 6 + 1]? = some (.int .i64 cds[q].next) ∧ C[q * 6 + 2]? = some (.bool cds[q].sends) ∧
    C[q * 6 + 3]? = some (.int .i64 cds[q].gv) ∧ C[q * 6 + 4]? = some (.int .i64 cds[q].gc) ∧ C[q * 6 + 5]? = some (.bool cds[q].graded)

/-- What counted makes of a cast. -/
def countedCD (d : CD) (step n t : Int) (m k : Nat) : CD :=
  if step = 2 then { d with next := (m : Int), sends := decide (n - t ≤ (k : Int)) }
  else if step = 3 then { d with gv := (gradeOf m k n t).1, gc := (gradeOf m k n t).2, graded := true } else d

theorem CastsIn.set2 {C : Array Value} {cds : List CD} (h : CastsIn C cds) {q : Nat} (hq : q < cds.length) (x : Int) (y : Bool) :
    CastsIn ((C.setIfInBounds (q * 6 + 1) (.int .i64 x)).setIfInBounds (q * 6 + 2) (.bool y)) (cds.set q { cds[q] with next := x, sends := y }) := by
  refine ⟨by simp [h.1], fun j hj => ?_⟩
  have hj' : j < cds.length := by simpa using hj
  have hs := h.1
  simp only [Array.getElem?_setIfInBounds, Array.size_setIfInBounds, hs]
  obtain ⟨g0, g1, g2, g3, g4, g5⟩ := h.2 j hj'
  by_cases hjq : j = q
  · subst hjq
    simp only [List.getElem_set_self]
    refine ⟨?_, ?_, ?_, ?_, ?_, ?_⟩
    · rw [if_neg (by omega), if_neg (by omega)]; exact g0
    · rw [if_neg (by omega), if_pos trivial, if_pos (by omega)]
    · rw [if_pos trivial, if_pos (by omega)]
    · rw [if_neg (by omega), if_neg (by omega)]; exact g3
    · rw [if_neg (by omega), if_neg (by omega)]; exact g4
    · rw [if_neg (by omega), if_neg (by omega)]; exact g5
  · rw [List.getElem_set_ne (Ne.symm hjq)]
    refine ⟨?_, ?_, ?_, ?_, ?_, ?_⟩
    · rw [if_neg (by omega), if_neg (by omega)]; exact g0
    · rw [if_neg (by omega), if_neg (by omega)]; exact g1
    · rw [if_neg (by omega), if_neg (by omega)]; exact g2
    · rw [if_neg (by omega), if_neg (by omega)]; exact g3
    · rw [if_neg (by omega), if_neg (by omega)]; exact g4
    · rw [if_neg (by omega), if_neg (by omega)]; exact g5
theorem CastsIn.set3 {C : Array Value} {cds : List CD} (h : CastsIn C cds) {q : Nat} (hq : q < cds.length) (x y : Int) (z : Bool) :
    CastsIn (((C.setIfInBounds (q * 6 + 3) (.int .i64 x)).setIfInBounds (q * 6 + 4) (.int .i64 y)).setIfInBounds (q * 6 + 5) (.bool z)) (cds.set q { cds[q] with gv := x, gc := y, graded := z }) := by
  refine ⟨by simp [h.1], fun j hj => ?_⟩
  have hj' : j < cds.length := by simpa using hj
  have hs := h.1
  simp only [Array.getElem?_setIfInBounds, Array.size_setIfInBounds, hs]
  obtain ⟨g0, g1, g2, g3, g4, g5⟩ := h.2 j hj'
  by_cases hjq : j = q
  · subst hjq
    simp only [List.getElem_set_self]
    refine ⟨?_, ?_, ?_, ?_, ?_, ?_⟩
    · rw [if_neg (by omega), if_neg (by omega), if_neg (by omega)]; exact g0
    · rw [if_neg (by omega), if_neg (by omega), if_neg (by omega)]; exact g1
    · rw [if_neg (by omega), if_neg (by omega), if_neg (by omega)]; exact g2
    · rw [if_neg (by omega), if_neg (by omega), if_pos trivial, if_pos (by omega)]
    · rw [if_neg (by omega), if_pos trivial, if_pos (by omega)]
    · rw [if_pos trivial, if_pos (by omega)]
  · rw [List.getElem_set_ne (Ne.symm hjq)]
    refine ⟨?_, ?_, ?_, ?_, ?_, ?_⟩
    · rw [if_neg (by omega), if_neg (by omega), if_neg (by omega)]; exact g0
    · rw [if_neg (by omega), if_neg (by omega), if_neg (by omega)]; exact g1
    · rw [if_neg (by omega), if_neg (by omega), if_neg (by omega)]; exact g2
    · rw [if_neg (by omega), if_neg (by omega), if_neg (by omega)]; exact g3
    · rw [if_neg (by omega), if_neg (by omega), if_neg (by omega)]; exact g4
    · rw [if_neg (by omega), if_neg (by omega), if_neg (by omega)]; exact g5

theorem wrap_id {x : Int} (h1 : -9223372036854775808 ≤ x) (h2 : x ≤ 9223372036854775807) : IntKind.i64.wrap x = x := by
  simp [IntKind.wrap, IntKind.signed, IntKind.bits]; omega

/-- n and t of a run. -/
def NT (n t : Int) : Prop := 1 ≤ n ∧ n ≤ 9223372036854775807 ∧ 0 ≤ t ∧ t < n

/-- grade (the program's) -/
def RetG (m k : Nat) (n t : Int) (w : World) (e : Ending) (w' : World) : Prop := e = .returned (.agg #[.int .i64 (gradeOf m k n t).1, .int .i64 (gradeOf m k n t).2]) ∧ Below w.heap.size w w'

set_option maxHeartbeats 2000000 in
set_option maxRecDepth 100000 in
theorem grade32 (m k : Nat) (n t : Int) (hnt : NT n t) (w : World) : Calls Try.prog 32 #[.int .i64 (m : Int), .int .i64 (k : Int), .int .i64 n, .int .i64 t] w fun e w' => RetG m k n t w e w' := by
  obtain ⟨h1, h2, h3, h4⟩ := hnt
  have hw1 : IntKind.i64.wrap (n - t) = n - t := wrap_id (by omega) (by omega)
  have hw2 : IntKind.i64.wrap (t + 1) = t + 1 := wrap_id (by omega) (by omega)
  by_cases g1 : n - t ≤ (k : Int)
  · have d1 : decide (n - t ≤ (k : Int)) = true := by rw [decide_eq_true_iff]; exact g1
    have HG : Hid (gradeOf m k n t = ((m : Int), 2)) := by unfold Hid gradeOf; rw [if_pos g1]
    go_enter Try.func32, Try.ntmps32
    go_wp2
    refine bodyPost_ret (v := .agg #[.int .i64 (m : Int), .int .i64 2]) (by simp [results, Try.results32, go_sem]) rfl ⟨by rw [HG.out], ?_⟩
    exact (Below.refl _ _).alloc (Nat.le_refl _) _
  · have d1 : decide (n - t ≤ (k : Int)) = false := by rw [decide_eq_false_iff_not]; exact g1
    by_cases g2 : t + 1 ≤ (k : Int)
    · have d2 : decide (t + 1 ≤ (k : Int)) = true := by rw [decide_eq_true_iff]; exact g2
      have HG : Hid (gradeOf m k n t = ((m : Int), 1)) := by unfold Hid gradeOf; rw [if_neg g1, if_pos g2]
      go_enter Try.func32, Try.ntmps32
      go_wp2
      refine bodyPost_ret (v := .agg #[.int .i64 (m : Int), .int .i64 1]) (by simp [results, Try.results32, go_sem]) rfl ⟨by rw [HG.out], ?_⟩
      exact (Below.refl _ _).alloc (Nat.le_refl _) _
    · have d2 : decide (t + 1 ≤ (k : Int)) = false := by rw [decide_eq_false_iff_not]; exact g2
      have HG : Hid (gradeOf m k n t = (0, 0)) := by unfold Hid gradeOf; rw [if_neg g1, if_neg g2]
      go_enter Try.func32, Try.ntmps32
      go_wp2
      refine bodyPost_ret (v := .agg #[.int .i64 0, .int .i64 0]) (by simp [results, Try.results32, go_sem]) rfl ⟨by rw [HG.out], ?_⟩
      exact (Below.refl _ _).alloc (Nat.le_refl _) _

/-- zzGrade (the law's) -/
def RetG2 (m k : Nat) (n t : Int) (w : World) (e : Ending) (w' : World) : Prop := e = .returned (.tuple #[.int .i64 (gradeOf m k n t).1, .int .i64 (gradeOf m k n t).2]) ∧ w' = w
set_option maxHeartbeats 2000000 in
set_option maxRecDepth 100000 in
theorem grade25 (m k : Nat) (n t : Int) (hnt : NT n t) (w : World) : Calls Try.prog 25 #[.int .i64 (m : Int), .int .i64 (k : Int), .int .i64 n, .int .i64 t] w fun e w' => RetG2 m k n t w e w' := by
  obtain ⟨h1, h2, h3, h4⟩ := hnt
  have hw1 : IntKind.i64.wrap (n - t) = n - t := wrap_id (by omega) (by omega)
  have hw2 : IntKind.i64.wrap (t + 1) = t + 1 := wrap_id (by omega) (by omega)
  by_cases g1 : n - t ≤ (k : Int)
  · have d1 : decide (n - t ≤ (k : Int)) = true := by rw [decide_eq_true_iff]; exact g1
    have HG : Hid (gradeOf m k n t = ((m : Int), 2)) := by unfold Hid gradeOf; rw [if_pos g1]
    go_enter Try.func25, Try.ntmps25
    go_wp2
    go_ret2
    exact ⟨by rw [HG.out]; rfl, rfl⟩
  · have d1 : decide (n - t ≤ (k : Int)) = false := by rw [decide_eq_false_iff_not]; exact g1
    by_cases g2 : t + 1 ≤ (k : Int)
    · have d2 : decide (t + 1 ≤ (k : Int)) = true := by rw [decide_eq_true_iff]; exact g2
      have HG : Hid (gradeOf m k n t = ((m : Int), 1)) := by unfold Hid gradeOf; rw [if_neg g1, if_pos g2]
      go_enter Try.func25, Try.ntmps25
      go_wp2
      go_ret2
      exact ⟨by rw [HG.out]; rfl, rfl⟩
    · have d2 : decide (t + 1 ≤ (k : Int)) = false := by rw [decide_eq_false_iff_not]; exact g2
      have HG : Hid (gradeOf m k n t = (0, 0)) := by unfold Hid gradeOf; rw [if_neg g1, if_neg g2]
      go_enter Try.func25, Try.ntmps25
      go_wp2
      go_ret2
      exact ⟨by rw [HG.out]; rfl, rfl⟩

/-- counted -/
def RetCt (cb : Nat) (cds : List CD) (q : Nat) (d : CD) (w : World) (e : Ending) (w' : World) : Prop :=
  e = .returned (.tuple #[]) ∧ (∃ C', Blk w' cb C' 90 ∧ CastsIn C' (cds.set q d)) ∧ (∀ b C t, b ≠ cb → Blk w b C t → Blk w' b C t) ∧ ∀ L, L ≤ cb → L ≤ w.heap.size → Below L w w'

set_option maxHeartbeats 2000000 in
set_option maxRecDepth 100000 in
theorem counted31 (cb : Nat) (C : Array Value) (cds : List CD) (q : Nat) (step n t : Int) (m k : Nat) (hnt : NT n t) (w : World) (hb : Blk w cb C 90) (hC : CastsIn C cds) (hq : q < cds.length) :
    Calls Try.prog 31 #[.pointer (some ⟨cb, q * 6, none⟩), .int .i64 step, .int .i64 n, .int .i64 t, .int .i64 (m : Int), .int .i64 (k : Int)] w fun e w' => RetCt cb cds q (countedCD cds[q] step n t m k) w e w' := by
  have HB : Hid (Blk w cb C 90) := hb
  have HC : Hid (CastsIn C cds) := hC
  obtain ⟨h1, h2, h3, h4⟩ := id hnt
  have hw1 : IntKind.i64.wrap (n - t) = n - t := wrap_id (by omega) (by omega)
  obtain ⟨g0, g1, g2, g3, g4, g5⟩ := hC.2 q hq
  have c1 : w.cell? ⟨cb, q * 6 + 1, none⟩ = some (.int .i64 cds[q].next) := by rw [hb.cell]; exact g1
  have c2 : w.cell? ⟨cb, q * 6 + 2, none⟩ = some (.bool cds[q].sends) := by rw [hb.cell]; exact g2
  have f1 := hb.free (q * 6 + 1)
  have f2 := hb.free (q * 6 + 2)
  by_cases hs2 : step = 2
  · subst hs2
    have HD : Hid (countedCD cds[q] 2 n t m k = { cds[q] with next := (m : Int), sends := decide (n - t ≤ (k : Int)) }) := by unfold Hid countedCD; rw [if_pos rfl]
    clear hC g0 g1 g2 g3 g4 g5 hb
    go_enter Try.func31, Try.ntmps31
    go_wp2
    go_end0
    refine ⟨rfl, ⟨_, (HB.out.set _ _).set _ _, ?_⟩, fun b C' t' hne hB => (hB.set_ne hne _ _).set_ne hne _ _, fun L hL _ => ((Below.refl _ _).setCell hL _).setCell hL _⟩
    rw [HD.out]
    exact HC.out.set2 hq _ _
  · have d1 : (step == 2) = false := by simp [hs2]
    by_cases hs3 : step = 3
    · subst hs3
      have HD : Hid (countedCD cds[q] 3 n t m k = { cds[q] with gv := (gradeOf m k n t).1, gc := (gradeOf m k n t).2, graded := true }) := by unfold Hid countedCD; rw [if_neg (by omega), if_pos rfl]
      clear hC g0 g1 g2 g3 g4 g5 hb c1 c2 f1 f2
      go_enter Try.func31, Try.ntmps31
      go_wp2_with fail
      refine (grade32 m k n t hnt w).mono ?_
      rintro e w2 ⟨rfl, hb2⟩
      have hB2 := HB.out.below hb2 HB.out.lt
      have HB2 : Hid (Blk w2 cb C 90) := hB2
      obtain ⟨_, _, _, g3, g4, g5⟩ := HC.out.2 q hq
      have c3 : w2.cell? ⟨cb, q * 6 + 3, none⟩ = some (.int .i64 cds[q].gv) := by rw [hB2.cell]; exact g3
      have c4 : w2.cell? ⟨cb, q * 6 + 4, none⟩ = some (.int .i64 cds[q].gc) := by rw [hB2.cell]; exact g4
      have c5 : w2.cell? ⟨cb, q * 6 + 5, none⟩ = some (.bool cds[q].graded) := by rw [hB2.cell]; exact g5
      have f3 := hB2.free (q * 6 + 3)
      have f4 := hB2.free (q * 6 + 4)
      have f5 := hB2.free (q * 6 + 5)
      generalize hgr : gradeOf m k n t = gr at *
      obtain ⟨x, y⟩ := gr
      clear g3 g4 g5 hB2 hgr
      go_wp2
      go_end0
      refine ⟨rfl, ⟨_, ((HB2.out.set _ _).set _ _).set _ _, ?_⟩, fun b C' t' hne hB => (((hB.below hb2 hB.lt).set_ne hne _ _).set_ne hne _ _).set_ne hne _ _, fun L hL hLw => (((hb2.mono hLw).setCell hL _).setCell hL _).setCell hL _⟩
      rw [HD.out]
      exact HC.out.set3 hq _ _ _
    · have d2 : (step == 3) = false := by simp [hs3]
      have HD : Hid (countedCD cds[q] step n t m k = cds[q]) := by unfold Hid countedCD; rw [if_neg hs2, if_neg hs3]
      clear hC g0 g1 g2 g3 g4 g5 hb
      go_enter Try.func31, Try.ntmps31
      go_wp2
      go_end0
      refine ⟨rfl, ⟨_, HB.out, ?_⟩, fun b C' t' hne hB => hB, fun L hL _ => Below.refl _ _⟩
      rw [HD.out, List.set_getElem_self]
      exact HC.out
end Go.Proofs.Qxb6619498a
