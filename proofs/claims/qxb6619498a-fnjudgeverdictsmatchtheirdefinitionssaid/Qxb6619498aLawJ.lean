import Derived.Test.Qxb6619498aJud
namespace Go.Proofs.Qxb6619498a
open Go.RowKit

set_option maxHeartbeats 2000000 in
set_option maxRecDepth 100000 in
theorem zzjudge_of (v wval : Value) (a V T s : Bool) (w : World)
    (h26 : ∀ w', Below w.heap.size w w' → Calls Try.prog 26 #[v, wval] w' fun e w2 => RetJ a V T s w' e w2) :
    Calls Try.prog 8 #[v, wval] w fun e w' => RetJ a V T s w e w' := by
  have H26 : Hid (∀ w', Below w.heap.size w w' → Calls Try.prog 26 #[v, wval] w' fun e w2 => RetJ a V T s w' e w2) := h26
  clear h26
  go_enter Try.func8, Try.ntmps8
  go_wp2_with fail
  obtain ⟨w1, hw1⟩ : ∃ w1, w.alloc (Obj.cells #[Value.bool false, Value.bool false, Value.bool false] 35) = w1 := ⟨_, rfl⟩
  rw [hw1]
  have b1 : Below w.heap.size w w1 := by rw [← hw1]; exact (Below.refl _ _).alloc (Nat.le_refl _) _
  have HN1 : Hid (Blk w1 w.heap.size #[.bool false, .bool false, .bool false] 35) := by unfold Hid; rw [← hw1]; exact Blk.new _ _ _
  clear hw1
  refine (H26.out w1 b1).mono ?_
  rintro e w6 ⟨rfl, hb2⟩
  have b2 : Below w.heap.size w w6 := b1.trans (hb2.mono b1.size)
  have hN := HN1.out.below hb2 HN1.out.lt
  have HN6 : Hid (Blk w6 w.heap.size #[.bool false, .bool false, .bool false] 35) := hN
  have f0 : w6.cell? ⟨w.heap.size, 0, none⟩ = some (.bool false) := by rw [hN.cell]; rfl
  have f1 : w6.cell? ⟨w.heap.size, 1, none⟩ = some (.bool false) := by rw [hN.cell]; rfl
  have f2 : w6.cell? ⟨w.heap.size, 2, none⟩ = some (.bool false) := by rw [hN.cell]; rfl
  have f3 : w6.frozen? ⟨w.heap.size, 0, none⟩ = false := hN.free 0
  have f4 : w6.frozen? ⟨w.heap.size, 1, none⟩ = false := hN.free 1
  have f5 : w6.frozen? ⟨w.heap.size, 2, none⟩ = false := hN.free 2
  clear hN
  go_wp2
  have hfin := ((HN6.out.set 0 (.bool a)).set 1 (.bool V)).set 2 (.bool T)
  have hbf := ((b2.setCell (p := ⟨w.heap.size, 0, none⟩) (Nat.le_refl _) (.bool a)).setCell (p := ⟨w.heap.size, 1, none⟩) (Nat.le_refl _) (.bool V)).setCell (p := ⟨w.heap.size, 2, none⟩) (Nat.le_refl _) (.bool T)
  generalize (((w6.setCell ⟨w.heap.size, 0, none⟩ (.bool a)).setCell ⟨w.heap.size, 1, none⟩ (.bool V)).setCell ⟨w.heap.size, 2, none⟩ (.bool T)) = W at *
  have g0 : W.cell? ⟨w.heap.size, 0, none⟩ = some (.bool a) := by rw [hfin.cell]; rfl
  have g1 : W.cell? ⟨w.heap.size, 1, none⟩ = some (.bool V) := by rw [hfin.cell]; rfl
  have g2 : W.cell? ⟨w.heap.size, 2, none⟩ = some (.bool T) := by rw [hfin.cell]; rfl
  refine bodyPost_ret (v := .tuple #[.agg #[.bool a, .bool V, .bool T], .bool s]) (by simp [results, Try.results8, go_sem, g0, g1, g2]) rfl ⟨rfl, hbf⟩

set_option maxHeartbeats 1000000 in
theorem bytesJ (ao : Option Addr) (n cap : Nat) (wval : Value) (w : World) :
    Calls Try.prog 7 #[.slice ao n cap, wval] w fun e w' => (∃ b, e = .returned (.bool b) ∧ (b = true → n ≤ 1048576)) ∧ w' = w := by
  by_cases h : 1048576 < n
  · go_enter Try.func7, Try.ntmps7
    go_wp2
    go_ret
    exact ⟨⟨false, rfl, fun h => by cases h⟩, rfl⟩
  · have hd : decide ((1048576 : Int) < (n : Int)) = false := by rw [decide_eq_false_iff_not]; omega
    go_enter Try.func7, Try.ntmps7
    go_wp2
    go_ret
    exact ⟨⟨true, rfl, fun _ => by omega⟩, rfl⟩

theorem make27 (w : World) (n : Nat) (h : n ≤ 2000000) : ∃ C : Array Value, C.size = n * 4 ∧ (Instr.makeSlice 27 (.int .i64 (n : Int)) (.int .i64 (n : Int))).run Try.prog w = .ok (.slice (some ⟨w.heap.size, 0, none⟩) n n) (w.alloc (.cells C 31)) := by
  obtain ⟨i0, hi, hz0, hz1, hz2⟩ := info_parts (P := Try.prog) (e := 31) (z := .agg #[.int .i64 0, .bool false, .int .i64 0, .int .i64 0]) (size := 4) (bytes := 32) (by kernel_rfl)
  have := run_make (P := Try.prog) w 27 31 i0 (.agg #[.int .i64 0, .bool false, .int .i64 0, .int .i64 0]) Try.underlying27 hi hz0 .i64 .i64 n n (by omega) (by omega) (by rw [hz2]; omega) (by omega)
  refine ⟨madeCells (Value.cells (.agg #[.int .i64 0, .bool false, .int .i64 0, .int .i64 0])) (n * 4), ?_, ?_⟩
  · rw [size_madeCells]
  · rw [this, hz1]; simp
end Go.Proofs.Qxb6619498a
