import Derived.Test.Qxb6619498aNod
namespace Go.Proofs.Qxb6619498a
open Go.RowKit

/-- ZZNodeWorkspace -/
def RetNW2 (kb sz block : Nat) (f : Nat → Nat) (w : World) (e : Ending) (w' : World) : Prop :=
  ∃ N, w.heap.size ≤ N ∧ e = .returned (.tuple #[.slice (some ⟨kb, 0, none⟩) sz sz, .int .i64 0, .slice (some ⟨N, 0, none⟩) block block, .slice (some ⟨N + 1, 0, none⟩) block block]) ∧
    FilledTo w' N block block 3 (fun b => .int .i64 (f (b * 2) : Int)) ∧ FilledTo w' (N + 1) block block 3 (fun b => .int .i64 (f (b * 2 + 1) : Int)) ∧ Below w.heap.size w w'

set_option maxHeartbeats 4000000 in
set_option maxRecDepth 100000 in
theorem nodeWs (nd cb K wsb hb H width block kb mb : Nat) (n t : Int) (vo : Option Addr) (vc : Nat) (f : Nat → Nat) (hl : block ≤ 65536) (w : World) (hnd : Blk w nd (ndArr n t cb K wsb) 99) (hws : Blk w wsb (wsArr hb H width block kb mb (.slice vo 0 vc)) 94) (hmb : Blk w mb (intsOf (block * 2) f) 102) :
    Calls Try.prog 23 #[.pointer (some ⟨nd, 0, none⟩)] w fun e w' => RetNW2 kb (block * width) block f w e w' := by
  have HND : Hid (Blk w nd (ndArr n t cb K wsb) 99) := hnd
  have HWS : Hid (Blk w wsb (wsArr hb H width block kb mb (.slice vo 0 vc)) 94) := hws
  have HMB : Hid (Blk w mb (intsOf (block * 2) f) 102) := hmb
  obtain ⟨sz, hsz⟩ : ∃ sz, block * width = sz := ⟨_, rfl⟩
  have HSZ : Hid (block * width = sz) := hsz
  rw [hsz]
  obtain ⟨N, hN⟩ : ∃ N, w.heap.size = N := ⟨_, rfl⟩
  have HN : Hid (w.heap.size = N) := hN
  have HRD : Hid (∀ Y, Below N w Y → Y.cell? ⟨nd, 12, none⟩ = some (.pointer (some ⟨wsb, 0, none⟩)) ∧ Y.cell? ⟨wsb, 3, none⟩ = some (.slice (some ⟨kb, 0, none⟩) sz sz) ∧ Y.cell? ⟨wsb, 4, none⟩ = some (.slice vo 0 vc) ∧ Y.cell? ⟨wsb, 5, none⟩ = some (.slice (some ⟨mb, 0, none⟩) block block) ∧ ∀ x, x < block * 2 → Y.cell? ⟨mb, x, none⟩ = some (.int .i64 (f x : Int))) := by
    intro Y hY
    rw [← HN.out] at hY
    have h1 := HND.out.below hY HND.out.lt
    have h2 := HWS.out.below hY HWS.out.lt
    have h3 := HMB.out.below hY HMB.out.lt
    refine ⟨by rw [h1.cell]; rfl, by rw [h2.cell, ← HSZ.out]; rfl, by rw [h2.cell]; rfl, by rw [h2.cell]; rfl, fun x hx => by rw [h3.cell, intsOf_get _ hx]⟩
  obtain ⟨r0, r1, r2, r3, _⟩ := HRD.out w (by exact Below.refl _ _)
  obtain ⟨A0, hA0, mk0⟩ := make64 w block (by omega)
  obtain ⟨A1, hA1, mk1⟩ := make64 (w.alloc (.cells A0 3)) block (by omega)
  have HS0 : Hid (A0.size = block) := by unfold Hid; rw [hA0, intsOf_size]
  have HS1 : Hid (A1.size = block) := by unfold Hid; rw [hA1, intsOf_size]
  have hwl := hws.lt
  have ra : ∀ o : Obj, (w.alloc o).cell? ⟨wsb, 5, none⟩ = some (.slice (some ⟨mb, 0, none⟩) block block) := fun o => by rw [(hws.alloc o).cell]; rfl
  have nn : wsb ≠ N := by omega
  have nn2 : N ≠ wsb := by omega
  clear hA0 hA1 hnd hws hmb hsz
  go_enter Try.func23, Try.ntmps23
  go_wp2_with fail
  obtain ⟨B1, hB1⟩ : ∃ B1, N + 1 = B1 := ⟨_, rfl⟩
  rw [hB1]
  have HB : Hid (N + 1 = B1) := hB1
  obtain ⟨w1, hw1⟩ : ∃ w1, ((w.alloc (Obj.cells A0 3)).alloc (Obj.cells A1 3)) = w1 := ⟨_, rfl⟩
  rw [hw1]
  have b1 : Below N w w1 := by
    rw [← hw1, ← hN]
    exact ((Below.refl _ _).alloc (Nat.le_refl _) _).alloc (by simp) _
  have HF0 : Hid (FilledTo w1 N block 0 3 (fun b => .int .i64 (f (b * 2) : Int))) := by
    have h := (FilledTo.new w A0 3 (fun b => .int .i64 (f (b * 2) : Int)) HS0.out).alloc (Obj.cells A1 3)
    simp only [hN] at h
    unfold Hid; rw [← hw1]; exact h
  have HF1 : Hid (FilledTo w1 B1 block 0 3 (fun b => .int .i64 (f (b * 2 + 1) : Int))) := by
    have h := FilledTo.new (w.alloc (Obj.cells A0 3)) A1 3 (fun b => .int .i64 (f (b * 2 + 1) : Int)) HS1.out
    simp only [World.size_alloc, hN, hB1] at h
    unfold Hid; rw [← hw1]; exact h
  clear hw1 hB1 mk0 mk1 r0 r1 r2 r3 hN ra
  go_loopw [7] (fun i wr => ∃ k : Nat, k ≤ block ∧ i = .int .i64 k ∧ FilledTo wr N block k 3 (fun b => .int .i64 (f (b * 2) : Int)) ∧ FilledTo wr B1 block k 3 (fun b => .int .i64 (f (b * 2 + 1) : Int)) ∧ Below N w wr) (fun i _ => block - (intOf i).toNat)
  case atStart => exact ⟨0, Nat.zero_le _, rfl, HF0.out, HF1.out, b1⟩
  case round =>
    obtain ⟨k, hk, rfl, h0, h1, hbel⟩ := hrel
    have H0 : Hid (FilledTo wr N block k 3 (fun b => .int .i64 (f (b * 2) : Int))) := h0
    have H1 : Hid (FilledTo wr B1 block k 3 (fun b => .int .i64 (f (b * 2 + 1) : Int))) := h1
    obtain ⟨r0, r1, r2, r3, r4⟩ := HRD.out wr hbel
    by_cases hlt : k < block
    · have hx1 : (k : Int) < (block : Int) := by omega
      have z1 := r4 (k * 2) (by omega)
      obtain ⟨v0, q0⟩ := h0.has hlt
      have f0 := h0.free k
      clear r0 r1 r2 r4 h0 h1
      go_upto_region 8 with fail
      refine gen_world (Pr := fun X => Code.wp Try.prog _ _ _ X) (fun Y => FilledTo Y N block (k + 1) 3 (fun b => .int .i64 (f (b * 2) : Int)) ∧ FilledTo Y B1 block k 3 (fun b => .int .i64 (f (b * 2 + 1) : Int)) ∧ Below N w Y) ?_ ?_
      · have := HB.out
        exact ⟨H0.out.set hlt rfl, H1.out.set_ne (by omega), hbel.setCell (p := ⟨N, k, none⟩) (Nat.le_refl _) _⟩
      clear z1 q0 f0 r3
      intro Y hY
      obtain ⟨y0, y1, yb⟩ := hY
      have HY0 : Hid (FilledTo Y N block (k + 1) 3 (fun b => .int .i64 (f (b * 2) : Int))) := y0
      have HY1 : Hid (FilledTo Y B1 block k 3 (fun b => .int .i64 (f (b * 2 + 1) : Int))) := y1
      obtain ⟨r0, r1, r2, r3, r4⟩ := HRD.out Y yb
      have z1 := r4 (k * 2 + 1) (by omega)
      obtain ⟨v0, q0⟩ := y1.has hlt
      have f0 := y1.free k
      clear r0 r1 r2 r4 y0 y1
      go_wp2
      go_roundw
      case rel =>
        have := HB.out
        exact ⟨k + 1, by omega, by go_num, HY0.out.set_ne (by omega), HY1.out.set hlt rfl, yb.setCell (p := ⟨B1, k, none⟩) (show N ≤ B1 by omega) _⟩
      case measure => simp [intOf]; omega
    · have hke : k = block := by omega
      have hx1 : decide ((k : Int) < (block : Int)) = false := by rw [decide_eq_false_iff_not]; omega
      have HKE : Hid (k = block) := hke
      clear h0 h1 hke r0 r4
      go_wp2
      go_quiet (fail)
      go_wp2
      refine bodyPost_ret (v := .tuple #[.slice (some ⟨kb, 0, none⟩) sz sz, .int .i64 0, .slice (some ⟨N, 0, none⟩) block block, .slice (some ⟨B1, 0, none⟩) block block]) (by simp [results, Try.results23, go_sem]) rfl ⟨N, by rw [HN.out]; exact Nat.le_refl _, by rw [HB.out], ?_, ?_, ?_⟩
      · have := H0.out
        rw [HKE.out] at this
        exact this.below ⟨rfl, rfl, rfl, Nat.le_refl _, fun _ _ => rfl⟩
      · have := H1.out
        rw [HKE.out] at this
        rw [HB.out]
        exact this.below ⟨rfl, rfl, rfl, Nat.le_refl _, fun _ _ => rfl⟩
      · rw [HN.out]; exact below_drewN hbel _

set_option maxHeartbeats 2000000 in
set_option maxRecDepth 100000 in
theorem zzcount {R : World → Prop} (a b c d : Value) (w : World) (h : Calls Try.prog 28 #[a, b, c, d] w fun e w' => e = .returned (.tuple #[]) ∧ R w') :
    Calls Try.prog 21 #[a, b, c, d] w fun e w' => e = .returned (.tuple #[]) ∧ R w' := by
  have H : Hid (Calls Try.prog 28 #[a, b, c, d] w fun e w' => e = .returned (.tuple #[]) ∧ R w') := h
  clear h
  go_enter Try.func21, Try.ntmps21
  go_wp2_with fail
  refine Calls.mono H.out ?_
  rintro e w' ⟨rfl, hR⟩
  have HR : Hid _ := hR
  clear hR H
  go_wp2
  go_end0
  exact ⟨rfl, HR.out⟩
end Go.Proofs.Qxb6619498a
