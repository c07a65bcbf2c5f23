import Derived.Test.Qxb6619498aLaw3
import Derived.Test.Qxb6619498aGrade
import Derived.Test.Qxb6619498aPlain
namespace Go.Proofs.Qxb6619498a
open Go.RowKit


set_option maxHeartbeats 8000000 in
set_option maxRecDepth 100000 in
theorem law3Sn  (cap : Nat) (gs : List G) (wb wo : Nat) (wv wc : Int) (w : World) (hs : GsAt w none gs) (hw0 : w.cell? ⟨wb, wo, none⟩ = some (.int .i64 wv)) (hw1 : w.cell? ⟨wb, wo + 1, none⟩ = some (.int .i64 wc)) :
    Calls Try.prog 3 #[.slice none gs.length cap, .pointer (some ⟨wb, wo, none⟩)] w fun e w' => e = .returned (.bool true) ∧ Below w.heap.size w w' := by
  have HS : Hid (GsAt w none gs) := hs
  have HW0 : Hid (w.cell? ⟨wb, wo, none⟩ = some (.int .i64 wv)) := hw0
  have HW1 : Hid (w.cell? ⟨wb, wo + 1, none⟩ = some (.int .i64 wc)) := hw1
  clear hw0 hw1
  clear hs
  go_enter Try.func3, Try.ntmps3
  go_wp2_with fail
  refine (bytesJ _ gs.length cap _ w).mono ?_
  rintro e w' ⟨⟨b, rfl, -⟩, hww⟩; subst w'
  cases b
  · go_wp2_with fail
    go_ret
    exact ⟨rfl, Below.refl _ _⟩
  by_cases hbig : 32768 < gs.length
  · go_wp2_with fail
    go_ret
    exact ⟨rfl, Below.refl _ _⟩
  have hbd : decide ((32768 : Int) < (gs.length : Int)) = false := by rw [decide_eq_false_iff_not]; omega
  have hl : gs.length ≤ 32768 := by omega
  clear hbig
  go_wp2_with fail
  go_loop [5] (fun i => ∃ k : Nat, k ≤ gs.length ∧ i = .int .i64 k ∧ ∀ g ∈ gs.take k, 0 ≤ g.conf ∧ g.conf ≤ 2) (fun i => gs.length - (intOf i).toNat)
  case atStart => exact ⟨0, Nat.zero_le _, rfl, fun g hg => by simp at hg⟩
  case round =>
    obtain ⟨k, hk, rfl, hin⟩ := hrel
    have HIN : Hid (∀ g ∈ gs.take k, 0 ≤ g.conf ∧ g.conf ≤ 2) := hin
    clear hin
    by_cases hlt : k < gs.length
    · obtain ⟨b, off, hao, _, _, _, hc4⟩ := HS.out k hlt
      cases hao
    have hke : k = gs.length := by omega
    have HCF : Hid (∀ g ∈ gs, 0 ≤ g.conf ∧ g.conf ≤ 2) := by have := HIN.out; rw [hke, List.take_of_length_le (Nat.le_refl _)] at this; exact this
    clear HIN hke
    have hg0 : gs.length = 0 := by
      rcases Nat.eq_zero_or_pos gs.length with h | h
      · exact h
      · obtain ⟨_, _, h0, _⟩ := HS.out 0 h; cases h0
    have HFILL : Hid (Fill w.heap.size w none gs 0) := .inl hg0
    have b1 : Below w.heap.size w w := Below.refl _ _
    have HG0 : Hid (gs.length = 0) := hg0
    clear hg0
    go_wp2_with fail
    go_loopw [7] (fun i wr => ∃ k : Nat, k ≤ gs.length ∧ i = .int .i64 k ∧ Fill w.heap.size wr none gs k ∧ Below w.heap.size w wr) (fun i _ => gs.length - (intOf i).toNat)
    case atStart => exact ⟨0, Nat.zero_le _, rfl, HFILL.out, b1⟩
    case round =>
      obtain ⟨k, hk, rfl, hfill, hbel⟩ := hrel
      by_cases hlt : k < gs.length
      · rcases hfill with h0 | ⟨N, C', hd, hBN, hb, hCs, hcs⟩
        · omega
        cases hd
      · have hke : k = gs.length := by omega
        subst hke
        have HG : Hid (GsAt wr none gs) := hfill.gs
        clear hfill
        have HB2 : Hid (Below w.heap.size w wr) := hbel
        have r0 : wr.cell? ⟨wb, wo, none⟩ = some (.int .i64 wv) := by rw [hbel.cell (cell_lt HW0.out)]; exact HW0.out
        have r1 : wr.cell? ⟨wb, wo + 1, none⟩ = some (.int .i64 wc) := by rw [hbel.cell (cell_lt HW1.out)]; exact HW1.out
        have r2 : ∀ o : Obj, (wr.alloc o).cell? ⟨wb, wo, none⟩ = some (.int .i64 wv) := fun o => cell_below r0 ((Below.refl _ _).alloc (Nat.le_refl _) _)
        have r3 : ∀ o : Obj, (wr.alloc o).cell? ⟨wb, wo + 1, none⟩ = some (.int .i64 wc) := fun o => cell_below r1 ((Below.refl _ _).alloc (Nat.le_refl _) _)
        go_wp2_with fail
        go_region
        go_wp2_with fail
        obtain ⟨X, hX⟩ : ∃ X, (wr.alloc (Obj.cells #[Value.int .i64 wv, Value.int .i64 wc] 29)).drew = X := ⟨_, rfl⟩
        rw [hX]
        have bX1 : Below wr.heap.size wr X := by rw [← hX]; exact ((Below.refl _ _).alloc (Nat.le_refl _) _).drew
        have HGX : Hid (GsAt X none gs) := HG.out.below bX1
        have cX0 : X.cell? ⟨wr.heap.size, 0, none⟩ = some (.int .i64 wv) := by rw [← hX]; exact ((Blk.new wr _ _).cell 0).trans rfl
        have cX1 : X.cell? ⟨wr.heap.size, 1, none⟩ = some (.int .i64 wc) := by rw [← hX]; exact ((Blk.new wr _ _).cell 1).trans rfl
        have bX : Below w.heap.size w X := hbel.trans (bX1.mono hbel.size)
        have h8 := zzjudge_of (.slice none gs.length 0) (.pointer (some ⟨wr.heap.size, 0, none⟩)) _ _ _ _ X (fun w' hb' => judge_of none 0 gs (by omega) HCF.out _ _ _ w' (HGX.out.below hb') (fun w'' hb'' => judgeGradeS none 0 gs (by omega) wr.heap.size wv wc w'' ((HGX.out.below hb').below hb'') (cell_below (cell_below cX0 hb') hb'') (cell_below (cell_below cX1 hb') hb'')))
        rw [HG0.out] at h8
        clear r0 r1 r2 r3 cX0 cX1 hX
        obtain ⟨A, hA⟩ : ∃ A, agree (vals (held gs)) = A := ⟨_, rfl⟩
        obtain ⟨V, hV⟩ : ∃ V, gs.all (ok (some (wv, wc))) = V := ⟨_, rfl⟩
        obtain ⟨T, hT⟩ : ∃ T, gs.all G.dec = T := ⟨_, rfl⟩
        obtain ⟨S, hS⟩ : ∃ S, decide (highOf gs - lowOf gs ≤ 1) = S := ⟨_, rfl⟩
        rw [hA, hV, hT, hS] at h8
        have HA : Hid (agree (vals (held gs)) = A) := hA
        have HV : Hid (gs.all (ok (some (wv, wc))) = V) := hV
        have HT : Hid (gs.all G.dec = T) := hT
        have HSS : Hid (decide (highOf gs - lowOf gs ≤ 1) = S) := hS
        have H8 : Hid _ := h8
        clear h8 hA hV hT hS
        refine Calls.mono H8.out ?_
        rintro e w6 ⟨rfl, hb6⟩
        have b6 : Below w.heap.size w w6 := bX.trans (hb6.mono bX.size)
        have hs6 := b6.size
        clear H8
        go_wp2_with fail
        obtain ⟨w7, hw7⟩ : ∃ w7, w6.alloc (Obj.cells #[Value.bool A, Value.bool V, Value.bool T] 35) = w7 := ⟨_, rfl⟩
        rw [hw7]
        have b7 : Below w.heap.size w w7 := by rw [← hw7]; exact b6.alloc hs6 _
        have HM7 : Hid (Blk w7 w6.heap.size #[.bool A, .bool V, .bool T] 35) := by unfold Hid; rw [← hw7]; exact Blk.new _ _ _
        clear hw7
        go_loopw [12, 13, 14, 15, 16, 17, 18, 19] (fun t v h lo hi z tw i wr => ∃ k : Nat, k ≤ gs.length ∧ i = .int .i64 k ∧ t = .bool ((gs.take k).all G.dec) ∧ v = .bool ((gs.take k).all (ok (some (wv, wc)))) ∧ h = .bool (hst (gs.take k)).1 ∧ lo = .int .i64 (hst (gs.take k)).2.1 ∧ hi = .int .i64 (hst (gs.take k)).2.2 ∧ z = .bool (sawC 0 (gs.take k)) ∧ tw = .bool (sawC 2 (gs.take k)) ∧ Below w7.heap.size w7 wr) (fun _ _ _ _ _ _ _ i _ => gs.length - (intOf i).toNat)
        case atStart => exact ⟨0, Nat.zero_le _, rfl, rfl, rfl, rfl, rfl, rfl, rfl, rfl, Below.refl _ _⟩
        case round =>
          obtain ⟨k, hk, rfl, rfl, rfl, rfl, rfl, rfl, rfl, rfl, hbel3⟩ := hrel
          by_cases hlt : k < gs.length
          · exact absurd hlt (by have := HG0.out; omega)
          · have hke : k = gs.length := by omega
            subst hke
            rw [List.take_of_length_le (Nat.le_refl _)]
            have hag := agree_hst gs
            have hne := near_eq gs HCF.out
            rw [HA.out] at hag
            rw [HSS.out] at hne
            rw [HV.out, HT.out]
            generalize hst gs = st at *
            obtain ⟨sh, lo, hi⟩ := st
            generalize sawC 0 gs = z at *
            generalize sawC 2 gs = tw at *
            simp only at hag ⊢
            have hM := HM7.out.below hbel3 HM7.out.lt
            have m0 : wr.cell? ⟨w6.heap.size, 0, none⟩ = some (.bool A) := by rw [hM.cell]; rfl
            have m1 : wr.cell? ⟨w6.heap.size, 1, none⟩ = some (.bool V) := by rw [hM.cell]; rfl
            have m2 : wr.cell? ⟨w6.heap.size, 2, none⟩ = some (.bool T) := by rw [hM.cell]; rfl
            have bfin : Below w.heap.size w wr := b7.trans (hbel3.mono b7.size)
            clear hM
            have hag' := hag.symm
            clear hag
            cases z <;> cases tw <;> simp only [Bool.and_true, Bool.and_false, Bool.not_true, Bool.not_false] at hne <;> subst hne
            all_goals
              go_wp2
              go_ret
              exact ⟨rfl, bfin⟩
end Go.Proofs.Qxb6619498a
