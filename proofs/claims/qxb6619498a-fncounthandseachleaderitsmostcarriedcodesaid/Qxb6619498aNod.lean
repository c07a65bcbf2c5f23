import Derived.Test.Qxb6619498aCst
import Derived.Test.Qxb6619498aMsg
namespace Go.Proofs.Qxb6619498a
open Go.RowKit

theorem make64 (w : World) (n : Nat) (h : n ≤ 2000000) : ∃ C : Array Value, C = intsOf n (fun _ => 0) ∧ (Instr.makeSlice 64 (.int .i64 (n : Int)) (.int .i64 (n : Int))).run Try.prog w = .ok (.slice (some ⟨w.heap.size, 0, none⟩) n n) (w.alloc (.cells C 3)) := by
  refine ⟨_, rfl, ?_⟩
  obtain ⟨i0, hi, hz0, hz1, hz2⟩ := info_parts (P := Try.prog) (e := 3) (z := .int .i64 0) (size := 1) (bytes := 8) (by kernel_rfl)
  have := run_make (P := Try.prog) w 64 3 i0 (.int .i64 0) Try.underlying64 hi hz0 .i64 .i64 n n (by omega) (by omega) (by rw [hz2]; omega) (by omega)
  have e : madeCells #[Value.int .i64 0] n = intsOf n (fun _ => 0) := by
    apply Array.toList_inj.1
    rw [toList_madeCells_one]
    simp only [intsOf]
    rw [List.map_const', List.length_range]
    rfl
  rw [this, hz1, ← e]
  simp [Value.cells]
theorem make66 (w : World) (n : Nat) (h : n ≤ 2000000) : ∃ C : Array Value, C.size = n ∧ (Instr.makeSlice 66 (.int .i64 (n : Int)) (.int .i64 (n : Int))).run Try.prog w = .ok (.slice (some ⟨w.heap.size, 0, none⟩) n n) (w.alloc (.cells C 4)) := by
  obtain ⟨i0, hi, hz0, hz1, hz2⟩ := info_parts (P := Try.prog) (e := 4) (z := .bool false) (size := 1) (bytes := 1) (by kernel_rfl)
  have := run_make (P := Try.prog) w 66 4 i0 (.bool false) Try.underlying66 hi hz0 .i64 .i64 n n (by omega) (by omega) (by rw [hz2]; omega) (by omega)
  refine ⟨madeCells (Value.cells (.bool false)) (n * 1), ?_, ?_⟩
  · rw [size_madeCells, Nat.mul_one]
  · rw [this, hz1]; simp

/-- A row whose first k cells hold what f says. -/
def FilledTo (w : World) (b n k : Nat) (t : TypeId) (f : Nat → Value) : Prop := ∃ C, Blk w b C t ∧ C.size = n ∧ ∀ j, j < k → C[j]? = some (f j)
theorem FilledTo.alloc {w : World} {b n k : Nat} {t : TypeId} {f : Nat → Value} (h : FilledTo w b n k t f) (o : Obj) : FilledTo (w.alloc o) b n k t f := by
  obtain ⟨C, h1, h2⟩ := h
  exact ⟨C, h1.alloc o, h2⟩
theorem FilledTo.new (w : World) (C : Array Value) (t : TypeId) (f : Nat → Value) {n : Nat} (h : C.size = n) : FilledTo (w.alloc (.cells C t)) w.heap.size n 0 t f := ⟨C, Blk.new _ _ _, h, fun j hj => by omega⟩
theorem FilledTo.set {w : World} {b n k : Nat} {t : TypeId} {f : Nat → Value} (h : FilledTo w b n k t f) (hk : k < n) {v : Value} (hv : v = f k) : FilledTo (w.setCell ⟨b, k, none⟩ v) b n (k + 1) t f := by
  obtain ⟨C, h1, h2, h3⟩ := h
  refine ⟨_, h1.set k v, by simp [h2], fun j hj => ?_⟩
  rw [Array.getElem?_setIfInBounds]
  by_cases hjk : k = j
  · subst hjk; rw [if_pos rfl, if_pos (by omega), hv]
  · rw [if_neg hjk]; exact h3 j (by omega)
theorem FilledTo.set_ne {w : World} {b b' n k o : Nat} {t : TypeId} {f : Nat → Value} {v : Value} (h : FilledTo w b n k t f) (hne : b ≠ b') : FilledTo (w.setCell ⟨b', o, none⟩ v) b n k t f := by
  obtain ⟨C, h1, h2⟩ := h
  exact ⟨C, h1.set_ne hne _ _, h2⟩
theorem FilledTo.drew {w : World} {b n k : Nat} {t : TypeId} {f : Nat → Value} (h : FilledTo w b n k t f) : FilledTo w.drew b n k t f := h
theorem FilledTo.has {w : World} {b n k : Nat} {t : TypeId} {f : Nat → Value} (h : FilledTo w b n k t f) {j : Nat} (hj : j < n) : ∃ v, w.cell? ⟨b, j, none⟩ = some v := by
  obtain ⟨C, h1, h2, _⟩ := h
  exact ⟨C[j]'(by omega), by rw [h1.cell]; simp [h2, hj]⟩
theorem FilledTo.free {w : World} {b n k : Nat} {t : TypeId} {f : Nat → Value} (h : FilledTo w b n k t f) (j : Nat) : w.frozen? ⟨b, j, none⟩ = false := by
  obtain ⟨C, h1, _⟩ := h
  exact h1.free j
theorem FilledTo.cell {w : World} {b n : Nat} {t : TypeId} {f : Nat → Value} (h : FilledTo w b n n t f) {j : Nat} (hj : j < n) : w.cell? ⟨b, j, none⟩ = some (f j) := by
  obtain ⟨C, h1, _, h3⟩ := h
  rw [h1.cell]; exact h3 j hj
theorem FilledTo.below {w w' : World} {b n k : Nat} {t : TypeId} {f : Nat → Value} (h : FilledTo w b n k t f) (hb : Below w.heap.size w w') : FilledTo w' b n k t f := by
  obtain ⟨C, h1, h2⟩ := h
  exact ⟨C, h1.below hb h1.lt, h2⟩
theorem FilledTo.lt {w : World} {b n k : Nat} {t : TypeId} {f : Nat → Value} (h : FilledTo w b n k t f) : b < w.heap.size := by
  obtain ⟨C, h1, _⟩ := h
  exact h1.lt

instance : Inhabited CD := ⟨⟨0, 0, false, 0, 0, false⟩⟩
instance : Inhabited HM := ⟨⟨0, none, 0, []⟩⟩
def fld0 (cds : List CD) (j : Nat) : Value := .int .i64 cds[j]!.leader
def fld1 (cds : List CD) (j : Nat) : Value := .int .i64 cds[j]!.next
def fld2 (cds : List CD) (j : Nat) : Value := .bool cds[j]!.sends
def fld3 (cds : List CD) (j : Nat) : Value := .int .i64 cds[j]!.gv
def fld4 (cds : List CD) (j : Nat) : Value := .int .i64 cds[j]!.gc
def fld5 (cds : List CD) (j : Nat) : Value := .bool cds[j]!.graded

/-- ZZNodeCasts -/
def RetNC (cds : List CD) (w : World) (e : Ending) (w' : World) : Prop :=
  ∃ N, w.heap.size ≤ N ∧ e = .returned (.tuple #[.slice (some ⟨N, 0, none⟩) cds.length cds.length, .slice (some ⟨N + 1, 0, none⟩) cds.length cds.length, .slice (some ⟨N + 2, 0, none⟩) cds.length cds.length, .slice (some ⟨N + 3, 0, none⟩) cds.length cds.length, .slice (some ⟨N + 4, 0, none⟩) cds.length cds.length, .slice (some ⟨N + 5, 0, none⟩) cds.length cds.length]) ∧
    FilledTo w' (N) cds.length cds.length 3 (fld0 cds) ∧ FilledTo w' (N + 1) cds.length cds.length 3 (fld1 cds) ∧ FilledTo w' (N + 2) cds.length cds.length 4 (fld2 cds) ∧ FilledTo w' (N + 3) cds.length cds.length 3 (fld3 cds) ∧ FilledTo w' (N + 4) cds.length cds.length 3 (fld4 cds) ∧ FilledTo w' (N + 5) cds.length cds.length 4 (fld5 cds) ∧ Below w.heap.size w w'

set_option maxHeartbeats 4000000 in
set_option maxRecDepth 100000 in
theorem nodeCasts (nd cb wsb : Nat) (n t : Int) (C : Array Value) (cds : List CD) (hl : cds.length ≤ 4096) (w : World) (hnd : Blk w nd (ndArr n t cb cds.length wsb) 99) (hcb : Blk w cb C 90) (hC : CastsIn C cds) :
    Calls Try.prog 22 #[.pointer (some ⟨nd, 0, none⟩)] w fun e w' => RetNC cds w e w' := by
  have HND : Hid (Blk w nd (ndArr n t cb cds.length wsb) 99) := hnd
  have HCB : Hid (Blk w cb C 90) := hcb
  have HCI : Hid (CastsIn C cds) := hC
  have c4 : w.cell? ⟨nd, 4, none⟩ = some (.slice (some ⟨cb, 0, none⟩) cds.length cds.length) := by rw [hnd.cell]; rfl
  have hndl := hnd.lt
  have hcbl := hcb.lt
  clear hnd hcb hC
  obtain ⟨K, hK⟩ : ∃ K, cds.length = K := ⟨_, rfl⟩
  have HK : Hid (cds.length = K) := hK
  rw [hK] at c4 hl
  clear hK
  obtain ⟨N, hN⟩ : ∃ N, w.heap.size = N := ⟨_, rfl⟩
  have HN : Hid (w.heap.size = N) := hN
  obtain ⟨A0, hA0, mk0⟩ := make64 (w) K (by omega)
  have sA0 : A0.size = K := by rw [hA0, intsOf_size]
  clear hA0
  have HS0 : Hid (A0.size = K) := sA0
  clear sA0
  obtain ⟨A1, hA1, mk1⟩ := make64 ((w).alloc (.cells A0 3)) K (by omega)
  have sA1 : A1.size = K := by rw [hA1, intsOf_size]
  clear hA1
  have HS1 : Hid (A1.size = K) := sA1
  clear sA1
  obtain ⟨A2, hA2, mk2⟩ := make66 (((w).alloc (.cells A0 3)).alloc (.cells A1 3)) K (by omega)
  have sA2 := hA2
  clear hA2
  have HS2 : Hid (A2.size = K) := sA2
  clear sA2
  obtain ⟨A3, hA3, mk3⟩ := make64 ((((w).alloc (.cells A0 3)).alloc (.cells A1 3)).alloc (.cells A2 4)) K (by omega)
  have sA3 : A3.size = K := by rw [hA3, intsOf_size]
  clear hA3
  have HS3 : Hid (A3.size = K) := sA3
  clear sA3
  obtain ⟨A4, hA4, mk4⟩ := make64 (((((w).alloc (.cells A0 3)).alloc (.cells A1 3)).alloc (.cells A2 4)).alloc (.cells A3 3)) K (by omega)
  have sA4 : A4.size = K := by rw [hA4, intsOf_size]
  clear hA4
  have HS4 : Hid (A4.size = K) := sA4
  clear sA4
  obtain ⟨A5, hA5, mk5⟩ := make66 ((((((w).alloc (.cells A0 3)).alloc (.cells A1 3)).alloc (.cells A2 4)).alloc (.cells A3 3)).alloc (.cells A4 3)) K (by omega)
  have sA5 := hA5
  clear hA5
  have HS5 : Hid (A5.size = K) := sA5
  clear sA5
  go_enter Try.func22, Try.ntmps22
  go_wp2_with fail
  obtain ⟨B1, hB1⟩ : ∃ B1, N + 1 = B1 := ⟨_, rfl⟩
  rw [hB1]
  obtain ⟨B2, hB2⟩ : ∃ B2, B1 + 1 = B2 := ⟨_, rfl⟩
  rw [hB2]
  obtain ⟨B3, hB3⟩ : ∃ B3, B2 + 1 = B3 := ⟨_, rfl⟩
  rw [hB3]
  obtain ⟨B4, hB4⟩ : ∃ B4, B3 + 1 = B4 := ⟨_, rfl⟩
  rw [hB4]
  obtain ⟨B5, hB5⟩ : ∃ B5, B4 + 1 = B5 := ⟨_, rfl⟩
  rw [hB5]
  have HB : Hid (N + 1 = B1 ∧ N + 2 = B2 ∧ N + 3 = B3 ∧ N + 4 = B4 ∧ N + 5 = B5) := ⟨by omega, by omega, by omega, by omega, by omega⟩
  obtain ⟨w1, hw1⟩ : ∃ w1, ((((((w.alloc (Obj.cells A0 3)).alloc (Obj.cells A1 3)).alloc (Obj.cells A2 4)).alloc (Obj.cells A3 3)).alloc (Obj.cells A4 3)).alloc (Obj.cells A5 4)) = w1 := ⟨_, rfl⟩
  rw [hw1]
  have b1 : Below N w w1 := by
    rw [← hw1, ← hN]
    exact ((((((Below.refl _ _).alloc (Nat.le_refl _) _).alloc (by simp) _).alloc (by simp; omega) _).alloc (by simp; omega) _).alloc (by simp; omega) _).alloc (by simp; omega) _
  have HF0 : Hid (FilledTo w1 N K 0 3 (fld0 cds)) := by
    have h := ((((((FilledTo.new (w) A0 3 (fld0 cds) HS0.out).alloc (Obj.cells A1 3)).alloc (Obj.cells A2 4)).alloc (Obj.cells A3 3)).alloc (Obj.cells A4 3)).alloc (Obj.cells A5 4))
    simp only [hN] at h
    unfold Hid; rw [← hw1]
    have e : N = N := by omega
    rw [e]; exact h
  have HF1 : Hid (FilledTo w1 B1 K 0 3 (fld1 cds)) := by
    have h := (((((FilledTo.new ((w.alloc (Obj.cells A0 3))) A1 3 (fld1 cds) HS1.out).alloc (Obj.cells A2 4)).alloc (Obj.cells A3 3)).alloc (Obj.cells A4 3)).alloc (Obj.cells A5 4))
    simp only [World.size_alloc, hN] at h
    unfold Hid; rw [← hw1]
    have e : B1 = N + 1 := by omega
    rw [e]; exact h
  have HF2 : Hid (FilledTo w1 B2 K 0 4 (fld2 cds)) := by
    have h := ((((FilledTo.new (((w.alloc (Obj.cells A0 3)).alloc (Obj.cells A1 3))) A2 4 (fld2 cds) HS2.out).alloc (Obj.cells A3 3)).alloc (Obj.cells A4 3)).alloc (Obj.cells A5 4))
    simp only [World.size_alloc, hN] at h
    unfold Hid; rw [← hw1]
    have e : B2 = N + 1 + 1 := by omega
    rw [e]; exact h
  have HF3 : Hid (FilledTo w1 B3 K 0 3 (fld3 cds)) := by
    have h := (((FilledTo.new ((((w.alloc (Obj.cells A0 3)).alloc (Obj.cells A1 3)).alloc (Obj.cells A2 4))) A3 3 (fld3 cds) HS3.out).alloc (Obj.cells A4 3)).alloc (Obj.cells A5 4))
    simp only [World.size_alloc, hN] at h
    unfold Hid; rw [← hw1]
    have e : B3 = N + 1 + 1 + 1 := by omega
    rw [e]; exact h
  have HF4 : Hid (FilledTo w1 B4 K 0 3 (fld4 cds)) := by
    have h := ((FilledTo.new (((((w.alloc (Obj.cells A0 3)).alloc (Obj.cells A1 3)).alloc (Obj.cells A2 4)).alloc (Obj.cells A3 3))) A4 3 (fld4 cds) HS4.out).alloc (Obj.cells A5 4))
    simp only [World.size_alloc, hN] at h
    unfold Hid; rw [← hw1]
    have e : B4 = N + 1 + 1 + 1 + 1 := by omega
    rw [e]; exact h
  have HF5 : Hid (FilledTo w1 B5 K 0 4 (fld5 cds)) := by
    have h := (FilledTo.new ((((((w.alloc (Obj.cells A0 3)).alloc (Obj.cells A1 3)).alloc (Obj.cells A2 4)).alloc (Obj.cells A3 3)).alloc (Obj.cells A4 3))) A5 4 (fld5 cds) HS5.out)
    simp only [World.size_alloc, hN] at h
    unfold Hid; rw [← hw1]
    have e : B5 = N + 1 + 1 + 1 + 1 + 1 := by omega
    rw [e]; exact h
  clear hw1 hB1 hB2 hB3 hB4 hB5 mk0 mk1 mk2 mk3 mk4 mk5 c4
  clear hN
  go_loopw [9] (fun i wr => ∃ k : Nat, k ≤ K ∧ i = .int .i64 k ∧ FilledTo wr N K k 3 (fld0 cds) ∧ FilledTo wr B1 K k 3 (fld1 cds) ∧ FilledTo wr B2 K k 4 (fld2 cds) ∧ FilledTo wr B3 K k 3 (fld3 cds) ∧ FilledTo wr B4 K k 3 (fld4 cds) ∧ FilledTo wr B5 K k 4 (fld5 cds) ∧ Below N w wr) (fun i _ => K - (intOf i).toNat)
  case atStart => exact ⟨0, Nat.zero_le _, rfl, HF0.out, HF1.out, HF2.out, HF3.out, HF4.out, HF5.out, b1⟩
  case round =>
    obtain ⟨k, hk, rfl, h0, h1, h2, h3, h4, h5, hbel⟩ := hrel
    have H0 : Hid (FilledTo wr N K k 3 (fld0 cds)) := h0
    have H1 : Hid (FilledTo wr B1 K k 3 (fld1 cds)) := h1
    have H2 : Hid (FilledTo wr B2 K k 4 (fld2 cds)) := h2
    have H3 : Hid (FilledTo wr B3 K k 3 (fld3 cds)) := h3
    have H4 : Hid (FilledTo wr B4 K k 3 (fld4 cds)) := h4
    have H5 : Hid (FilledTo wr B5 K k 4 (fld5 cds)) := h5
    by_cases hlt : k < K
    · have hkc : k < cds.length := by rw [HK.out]; exact hlt
      have hbw : Below w.heap.size w wr := by rw [HN.out]; exact hbel
      have hNr := HND.out.below hbw HND.out.lt
      have hCr := HCB.out.below hbw HCB.out.lt
      have c4 : wr.cell? ⟨nd, 4, none⟩ = some (.slice (some ⟨cb, 0, none⟩) K K) := by rw [hNr.cell, ← HK.out]; rfl
      obtain ⟨g0, g1, g2, g3, g4, g5⟩ := HCI.out.2 k hkc
      rw [← hCr.cell] at g0 g1 g2 g3 g4 g5
      have HDE : Hid (cds[k]! = cds[k]) := by unfold Hid; simp [hkc]
      generalize cds[k] = d at *
      obtain ⟨dl, dn, ds, dv, dc, dg⟩ := d
      simp only at g0 g1 g2 g3 g4 g5
      have hx1 : (k : Int) < (K : Int) := by omega
      have HRD : Hid (∀ Y, Below N w Y → Y.cell? ⟨nd, 4, none⟩ = some (.slice (some ⟨cb, 0, none⟩) K K) ∧ Y.cell? ⟨cb, k * 6, none⟩ = some (.int .i64 dl) ∧ Y.cell? ⟨cb, k * 6 + 1, none⟩ = some (.int .i64 dn) ∧ Y.cell? ⟨cb, k * 6 + 2, none⟩ = some (.bool ds) ∧ Y.cell? ⟨cb, k * 6 + 3, none⟩ = some (.int .i64 dv) ∧ Y.cell? ⟨cb, k * 6 + 4, none⟩ = some (.int .i64 dc) ∧ Y.cell? ⟨cb, k * 6 + 5, none⟩ = some (.bool dg)) := by
        intro Y hY
        have e1 := (hY.cell (p := ⟨nd, 4, none⟩) (by rw [← HN.out]; exact hndl)).trans ((hbel.cell (p := ⟨nd, 4, none⟩) (by rw [← HN.out]; exact hndl)).symm)
        have e2 := fun o => (hY.cell (p := ⟨cb, o, none⟩) (by rw [← HN.out]; exact hcbl)).trans ((hbel.cell (p := ⟨cb, o, none⟩) (by rw [← HN.out]; exact hcbl)).symm)
        exact ⟨e1.trans c4, (e2 _).trans g0, (e2 _).trans g1, (e2 _).trans g2, (e2 _).trans g3, (e2 _).trans g4, (e2 _).trans g5⟩
      clear hNr hCr hbw c4 g0 g1 g2 g3 g4 g5
      have HST : Hid (FilledTo wr N K k 3 (fld0 cds) ∧ FilledTo wr B1 K k 3 (fld1 cds) ∧ FilledTo wr B2 K k 4 (fld2 cds) ∧ FilledTo wr B3 K k 3 (fld3 cds) ∧ FilledTo wr B4 K k 3 (fld4 cds) ∧ FilledTo wr B5 K k 4 (fld5 cds) ∧ Below N w wr) := ⟨h0, h1, h2, h3, h4, h5, hbel⟩
      clear h0 h1 h2 h3 h4 h5 hbel
      obtain ⟨s0, s1, s2, s3, s4, s5, sb⟩ := HST.out
      obtain ⟨c4, g0, g1, g2, g3, g4, g5⟩ := HRD.out wr sb
      obtain ⟨v0, q0⟩ := s0.has hlt
      have f0 := s0.free k
      clear s0 s1 s2 s3 s4 s5
      go_upto_region 12 with fail
      refine gen_world (Pr := fun X => Code.wp Try.prog _ _ _ X) (fun Y => FilledTo Y N K (k + 1) 3 (fld0 cds) ∧ FilledTo Y B1 K k 3 (fld1 cds) ∧ FilledTo Y B2 K k 4 (fld2 cds) ∧ FilledTo Y B3 K k 3 (fld3 cds) ∧ FilledTo Y B4 K k 3 (fld4 cds) ∧ FilledTo Y B5 K k 4 (fld5 cds) ∧ Below N w Y) ?_ ?_
      · obtain ⟨s0, s1, s2, s3, s4, s5, sb⟩ := HST.out
        have hBB := HB.out
        exact ⟨s0.set hlt (by unfold fld0; rw [HDE.out]), s1.set_ne (by omega), s2.set_ne (by omega), s3.set_ne (by omega), s4.set_ne (by omega), s5.set_ne (by omega), sb.setCell (p := ⟨N, k, none⟩) (Nat.le_refl _) _⟩
      clear q0 f0 c4 g0 g1 g2 g3 g4 g5 sb
      intro Y1 hY
      have HST1 : Hid (FilledTo Y1 N K (k + 1) 3 (fld0 cds) ∧ FilledTo Y1 B1 K k 3 (fld1 cds) ∧ FilledTo Y1 B2 K k 4 (fld2 cds) ∧ FilledTo Y1 B3 K k 3 (fld3 cds) ∧ FilledTo Y1 B4 K k 3 (fld4 cds) ∧ FilledTo Y1 B5 K k 4 (fld5 cds) ∧ Below N w Y1) := hY
      clear hY
      obtain ⟨s0, s1, s2, s3, s4, s5, sb⟩ := HST1.out
      obtain ⟨c4, g0, g1, g2, g3, g4, g5⟩ := HRD.out Y1 sb
      obtain ⟨v1, q1⟩ := s1.has hlt
      have f1 := s1.free k
      clear s0 s1 s2 s3 s4 s5
      go_upto_region 13 with fail
      refine gen_world (Pr := fun X => Code.wp Try.prog _ _ _ X) (fun Y => FilledTo Y N K (k + 1) 3 (fld0 cds) ∧ FilledTo Y B1 K (k + 1) 3 (fld1 cds) ∧ FilledTo Y B2 K k 4 (fld2 cds) ∧ FilledTo Y B3 K k 3 (fld3 cds) ∧ FilledTo Y B4 K k 3 (fld4 cds) ∧ FilledTo Y B5 K k 4 (fld5 cds) ∧ Below N w Y) ?_ ?_
      · obtain ⟨s0, s1, s2, s3, s4, s5, sb⟩ := HST1.out
        have hBB := HB.out
        exact ⟨s0.set_ne (by omega), s1.set hlt (by unfold fld1; rw [HDE.out]), s2.set_ne (by omega), s3.set_ne (by omega), s4.set_ne (by omega), s5.set_ne (by omega), sb.setCell (p := ⟨B1, k, none⟩) (show N ≤ B1 by omega) _⟩
      clear q1 f1 c4 g0 g1 g2 g3 g4 g5 sb
      intro Y2 hY
      have HST2 : Hid (FilledTo Y2 N K (k + 1) 3 (fld0 cds) ∧ FilledTo Y2 B1 K (k + 1) 3 (fld1 cds) ∧ FilledTo Y2 B2 K k 4 (fld2 cds) ∧ FilledTo Y2 B3 K k 3 (fld3 cds) ∧ FilledTo Y2 B4 K k 3 (fld4 cds) ∧ FilledTo Y2 B5 K k 4 (fld5 cds) ∧ Below N w Y2) := hY
      clear hY
      obtain ⟨s0, s1, s2, s3, s4, s5, sb⟩ := HST2.out
      obtain ⟨c4, g0, g1, g2, g3, g4, g5⟩ := HRD.out Y2 sb
      obtain ⟨v2, q2⟩ := s2.has hlt
      have f2 := s2.free k
      clear s0 s1 s2 s3 s4 s5
      go_upto_region 14 with fail
      refine gen_world (Pr := fun X => Code.wp Try.prog _ _ _ X) (fun Y => FilledTo Y N K (k + 1) 3 (fld0 cds) ∧ FilledTo Y B1 K (k + 1) 3 (fld1 cds) ∧ FilledTo Y B2 K (k + 1) 4 (fld2 cds) ∧ FilledTo Y B3 K k 3 (fld3 cds) ∧ FilledTo Y B4 K k 3 (fld4 cds) ∧ FilledTo Y B5 K k 4 (fld5 cds) ∧ Below N w Y) ?_ ?_
      · obtain ⟨s0, s1, s2, s3, s4, s5, sb⟩ := HST2.out
        have hBB := HB.out
        exact ⟨s0.set_ne (by omega), s1.set_ne (by omega), s2.set hlt (by unfold fld2; rw [HDE.out]), s3.set_ne (by omega), s4.set_ne (by omega), s5.set_ne (by omega), sb.setCell (p := ⟨B2, k, none⟩) (show N ≤ B2 by omega) _⟩
      clear q2 f2 c4 g0 g1 g2 g3 g4 g5 sb
      intro Y3 hY
      have HST3 : Hid (FilledTo Y3 N K (k + 1) 3 (fld0 cds) ∧ FilledTo Y3 B1 K (k + 1) 3 (fld1 cds) ∧ FilledTo Y3 B2 K (k + 1) 4 (fld2 cds) ∧ FilledTo Y3 B3 K k 3 (fld3 cds) ∧ FilledTo Y3 B4 K k 3 (fld4 cds) ∧ FilledTo Y3 B5 K k 4 (fld5 cds) ∧ Below N w Y3) := hY
      clear hY
      obtain ⟨s0, s1, s2, s3, s4, s5, sb⟩ := HST3.out
      obtain ⟨c4, g0, g1, g2, g3, g4, g5⟩ := HRD.out Y3 sb
      obtain ⟨v3, q3⟩ := s3.has hlt
      have f3 := s3.free k
      clear s0 s1 s2 s3 s4 s5
      go_upto_region 15 with fail
      refine gen_world (Pr := fun X => Code.wp Try.prog _ _ _ X) (fun Y => FilledTo Y N K (k + 1) 3 (fld0 cds) ∧ FilledTo Y B1 K (k + 1) 3 (fld1 cds) ∧ FilledTo Y B2 K (k + 1) 4 (fld2 cds) ∧ FilledTo Y B3 K (k + 1) 3 (fld3 cds) ∧ FilledTo Y B4 K k 3 (fld4 cds) ∧ FilledTo Y B5 K k 4 (fld5 cds) ∧ Below N w Y) ?_ ?_
      · obtain ⟨s0, s1, s2, s3, s4, s5, sb⟩ := HST3.out
        have hBB := HB.out
        exact ⟨s0.set_ne (by omega), s1.set_ne (by omega), s2.set_ne (by omega), s3.set hlt (by unfold fld3; rw [HDE.out]), s4.set_ne (by omega), s5.set_ne (by omega), sb.setCell (p := ⟨B3, k, none⟩) (show N ≤ B3 by omega) _⟩
      clear q3 f3 c4 g0 g1 g2 g3 g4 g5 sb
      intro Y4 hY
      have HST4 : Hid (FilledTo Y4 N K (k + 1) 3 (fld0 cds) ∧ FilledTo Y4 B1 K (k + 1) 3 (fld1 cds) ∧ FilledTo Y4 B2 K (k + 1) 4 (fld2 cds) ∧ FilledTo Y4 B3 K (k + 1) 3 (fld3 cds) ∧ FilledTo Y4 B4 K k 3 (fld4 cds) ∧ FilledTo Y4 B5 K k 4 (fld5 cds) ∧ Below N w Y4) := hY
      clear hY
      obtain ⟨s0, s1, s2, s3, s4, s5, sb⟩ := HST4.out
      obtain ⟨c4, g0, g1, g2, g3, g4, g5⟩ := HRD.out Y4 sb
      obtain ⟨v4, q4⟩ := s4.has hlt
      have f4 := s4.free k
      clear s0 s1 s2 s3 s4 s5
      go_upto_region 16 with fail
      refine gen_world (Pr := fun X => Code.wp Try.prog _ _ _ X) (fun Y => FilledTo Y N K (k + 1) 3 (fld0 cds) ∧ FilledTo Y B1 K (k + 1) 3 (fld1 cds) ∧ FilledTo Y B2 K (k + 1) 4 (fld2 cds) ∧ FilledTo Y B3 K (k + 1) 3 (fld3 cds) ∧ FilledTo Y B4 K (k + 1) 3 (fld4 cds) ∧ FilledTo Y B5 K k 4 (fld5 cds) ∧ Below N w Y) ?_ ?_
      · obtain ⟨s0, s1, s2, s3, s4, s5, sb⟩ := HST4.out
        have hBB := HB.out
        exact ⟨s0.set_ne (by omega), s1.set_ne (by omega), s2.set_ne (by omega), s3.set_ne (by omega), s4.set hlt (by unfold fld4; rw [HDE.out]), s5.set_ne (by omega), sb.setCell (p := ⟨B4, k, none⟩) (show N ≤ B4 by omega) _⟩
      clear q4 f4 c4 g0 g1 g2 g3 g4 g5 sb
      intro Y5 hY
      have HST5 : Hid (FilledTo Y5 N K (k + 1) 3 (fld0 cds) ∧ FilledTo Y5 B1 K (k + 1) 3 (fld1 cds) ∧ FilledTo Y5 B2 K (k + 1) 4 (fld2 cds) ∧ FilledTo Y5 B3 K (k + 1) 3 (fld3 cds) ∧ FilledTo Y5 B4 K (k + 1) 3 (fld4 cds) ∧ FilledTo Y5 B5 K k 4 (fld5 cds) ∧ Below N w Y5) := hY
      clear hY
      obtain ⟨s0, s1, s2, s3, s4, s5, sb⟩ := HST5.out
      obtain ⟨c4, g0, g1, g2, g3, g4, g5⟩ := HRD.out Y5 sb
      obtain ⟨v5, q5⟩ := s5.has hlt
      have f5 := s5.free k
      clear s0 s1 s2 s3 s4 s5
      go_wp2
      go_roundw
      case rel =>
        obtain ⟨s0, s1, s2, s3, s4, s5, sb⟩ := HST5.out
        have hBB := HB.out
        exact ⟨k + 1, by omega, by go_num, s0.set_ne (by omega), s1.set_ne (by omega), s2.set_ne (by omega), s3.set_ne (by omega), s4.set_ne (by omega), s5.set hlt (by unfold fld5; rw [HDE.out]), sb.setCell (p := ⟨B5, k, none⟩) (show N ≤ B5 by omega) _⟩
      case measure => simp [intOf]; omega
    · have hke : k = K := by omega
      have hx1 : decide ((k : Int) < (K : Int)) = false := by rw [decide_eq_false_iff_not]; omega
      have HKE : Hid (k = K) := hke
      clear h0 h1 h2 h3 h4 h5 hke
      go_wp2
      refine bodyPost_ret (v := .tuple #[.slice (some ⟨N, 0, none⟩) K K, .slice (some ⟨B1, 0, none⟩) K K, .slice (some ⟨B2, 0, none⟩) K K, .slice (some ⟨B3, 0, none⟩) K K, .slice (some ⟨B4, 0, none⟩) K K, .slice (some ⟨B5, 0, none⟩) K K]) (by simp [results, Try.results22, go_sem]) rfl ⟨N, by rw [HN.out]; exact Nat.le_refl _, ?_, ?_, ?_, ?_, ?_, ?_, ?_, ?_⟩
      · obtain ⟨e1, e2, e3, e4, e5⟩ := HB.out
        rw [e1, e2, e3, e4, e5, HK.out]
      · have := H0.out
        rw [HKE.out] at this
        rw [HK.out]
        exact this
      · have := H1.out
        rw [HKE.out] at this
        rw [HK.out]
        have e : N + 1 = B1 := by have := HB.out; omega
        rw [e]; exact this
      · have := H2.out
        rw [HKE.out] at this
        rw [HK.out]
        have e : N + 2 = B2 := by have := HB.out; omega
        rw [e]; exact this
      · have := H3.out
        rw [HKE.out] at this
        rw [HK.out]
        have e : N + 3 = B3 := by have := HB.out; omega
        rw [e]; exact this
      · have := H4.out
        rw [HKE.out] at this
        rw [HK.out]
        have e : N + 4 = B4 := by have := HB.out; omega
        rw [e]; exact this
      · have := H5.out
        rw [HKE.out] at this
        rw [HK.out]
        have e : N + 5 = B5 := by have := HB.out; omega
        rw [e]; exact this
      · rw [HN.out]; exact hbel
end Go.Proofs.Qxb6619498a
