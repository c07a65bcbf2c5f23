import Derived.Test.Qxb6619498aGdef
namespace Go.Proofs.Qxb6619498a
open Go.RowKit

set_option maxHeartbeats 8000000 in
theorem judgeGradeN (ao : Option Addr) (cap : Nat) (gs : List G) (hl : gs.length ≤ 2000000) (w : World) (hs : GsAt w ao gs) :
    Calls Try.prog 29 #[.slice ao gs.length cap, .pointer none] w fun e w' => RetW (gs.all (ok none)) (gs.all G.dec) w e w' := by
  have HS : Hid (GsAt w ao gs) := hs
  clear hs
  go_enter Try.func29, Try.ntmps29
  go_wp2
  go_loopw [6, 12] (fun f i wr => ∃ k : Nat, k ≤ gs.length ∧ i = .int .i64 k ∧ (f = .pointer none ∨ ∃ j b off, j < gs.length ∧ ao = some ⟨b, off, none⟩ ∧ f = .pointer (some ⟨b, off + j * 4 + 2, none⟩)) ∧ Blk wr w.heap.size #[.bool false, .bool false, .bool false] 35 ∧ (∃ a, Blk wr (w.heap.size + 1) #[.bool a, .bool ((gs.take k).all (ok none)), .bool ((gs.take k).all G.dec)] 35) ∧ Below w.heap.size w wr) (fun _ i _ => gs.length - (intOf i).toNat)
  case atStart =>
    refine ⟨0, Nat.zero_le _, rfl, .inl rfl, (Blk.new w _ _).alloc _, ⟨true, ?_⟩, ((Below.refl _ _).alloc (Nat.le_refl _) _).alloc (by simp) _⟩
    have := Blk.new (w.alloc (Obj.cells #[Value.bool false, Value.bool false, Value.bool false] 35)) #[Value.bool true, Value.bool true, Value.bool true] 35
    simpa using this
  case round =>
    obtain ⟨k, hk, rfl, hf, hB4, ⟨a, hB5⟩, hbel⟩ := hrel
    have HB4 : Hid (Blk wr w.heap.size #[.bool false, .bool false, .bool false] 35) := hB4
    obtain ⟨V, hV⟩ : ∃ V, (gs.take k).all (ok none) = V := ⟨_, rfl⟩
    obtain ⟨T, hT⟩ : ∃ T, (gs.take k).all G.dec = T := ⟨_, rfl⟩
    rw [hV, hT] at hB5
    have HB5 : Hid (Blk wr (w.heap.size + 1) #[.bool a, .bool V, .bool T] 35) := hB5
    have hq1 := hB5.lt
    have hq2 := hB4.lt
    clear hB4 hB5
    by_cases hlt : k < gs.length
    · obtain ⟨b, off, hao, hc1, hc2, hc3, hc4⟩ := HS.out.below hbel k hlt
      have hx1 : (k : Int) < (gs.length : Int) := by omega
      have HBEL : Hid (Below w.heap.size w wr) := hbel
      have HVS : Hid ((gs.take (k + 1)).all (ok none) = (V && ok none gs[k])) := by unfold Hid; rw [take_snoc _ _ hlt, List.all_append, hV]; simp
      have HTS : Hid ((gs.take (k + 1)).all G.dec = (T && gs[k].dec)) := by unfold Hid; rw [take_snoc _ _ hlt, List.all_append, hT]; simp
      generalize hgk : gs[k] = gk at *
      obtain ⟨nk, dk, vk, ck⟩ := gk
      simp only at hc1 hc2 hc3 hc4
      obtain ⟨w1, hw1⟩ : ∃ w1, wr.alloc (Obj.cells #[Value.int .i64 nk, Value.bool dk, Value.int .i64 vk, Value.int .i64 ck] 31) = w1 := ⟨_, rfl⟩
      have hd := Blk.new wr #[Value.int .i64 nk, Value.bool dk, Value.int .i64 vk, Value.int .i64 ck] 31
      rw [hw1] at hd
      have e1 : w1.cell? ⟨wr.heap.size, 2, none⟩ = some (.int .i64 vk) := by rw [hd.cell]; rfl
      have e1' : w1.cell? ⟨wr.heap.size, 3, none⟩ = some (.int .i64 ck) := by rw [hd.cell]; rfl
      have hk5 : Blk w1 (w.heap.size + 1) #[.bool a, .bool V, .bool T] 35 := by rw [← hw1]; exact HB5.out.alloc _
      have HK5 : Hid (Blk w1 (w.heap.size + 1) #[.bool a, .bool V, .bool T] 35) := hk5
      have HK4 : Hid (Blk w1 w.heap.size #[.bool false, .bool false, .bool false] 35) := by unfold Hid; rw [← hw1]; exact HB4.out.alloc _
      have e30 : w1.cell? ⟨w.heap.size + 1, 0, none⟩ = some (.bool a) := by rw [hk5.cell]; rfl
      have e31 : w1.cell? ⟨w.heap.size + 1, 1, none⟩ = some (.bool V) := by rw [hk5.cell]; rfl
      have e32 : w1.cell? ⟨w.heap.size + 1, 2, none⟩ = some (.bool T) := by rw [hk5.cell]; rfl
      have e40 : w1.frozen? ⟨w.heap.size + 1, 0, none⟩ = false := hk5.free 0
      have e41 : w1.frozen? ⟨w.heap.size + 1, 1, none⟩ = false := hk5.free 1
      have e42 : w1.frozen? ⟨w.heap.size + 1, 2, none⟩ = false := hk5.free 2
      have HB1 : Hid (Below w.heap.size w w1) := by unfold Hid; rw [← hw1]; exact hbel.alloc (by omega) _
      have HWR : Hid (wr.alloc (Obj.cells #[Value.int .i64 nk, Value.bool dk, Value.int .i64 vk, Value.int .i64 ck] 31) = w1) := hw1
      have HF : Hid (f6_ok gs ao u6) := hf
      clear hgk hk5 hw1 hd hV hT
      subst hao
      cases dk
      · -- it has not decided
        clear e1 e1' e30 e40 e31 e32 e41 e42
        have z1 : wr.cell? ⟨w.heap.size + 1, 1, none⟩ = some (.bool V) := by rw [HB5.out.cell]; rfl
        have z2 : wr.cell? ⟨w.heap.size + 1, 2, none⟩ = some (.bool T) := by rw [HB5.out.cell]; rfl
        have z3 : wr.frozen? ⟨w.heap.size + 1, 1, none⟩ = false := HB5.out.free 1
        have z4 : wr.frozen? ⟨w.heap.size + 1, 2, none⟩ = false := HB5.out.free 2
        cases V
        all_goals
          go_wp2
          go_roundw
          case rel =>
            refine ⟨k + 1, by omega, by go_num, HF.out, ((HB4.out.set_ne (by omega) _ _).set_ne (by omega) _ _).alloc _, ⟨a, ?_⟩, ((hbel.setCell (by simp) _).setCell (by simp) _).alloc (by simp [World.setCell]; omega) _⟩
            rw [HVS.out, HTS.out]
            simp only [ok, Bool.and_false, Bool.and_true]
            exact ((HB5.out.set 2 _).set 1 _).alloc _
          case measure => simp [intOf]; omega
      · -- it has decided
        have HTT : Hid ((gs.take (k + 1)).all G.dec = T) := by unfold Hid; rw [HTS.out]; simp
        have hn1 : wr.heap.size ≠ w.heap.size + 1 := by omega
        have hn1' : w.heap.size + 1 ≠ wr.heap.size := by omega
        rcases HF.out with hf0 | ⟨j, b0, off0, hj, hao0, hf0⟩
        · -- the first one
          subst hf0
          have HOK : Hid ((gs.take (k + 1)).all (ok none) = V) := by unfold Hid; rw [HVS.out]; simp [ok]
          all_goals
            go_wp2
            rw [HWR.out]
            go_quiet (fail)
            go_wp2
            go_roundw
            case rel =>
              refine ⟨k + 1, by omega, by go_num, .inr ⟨k, b, off, hlt, rfl, rfl⟩, ?_, ⟨a, ?_⟩, ?_⟩
              · first | exact HK4.out | exact HK4.out.set_ne (by omega) _ _
              · rw [HOK.out, HTT.out]; first | exact HK5.out | exact HK5.out.set 1 _
              · repeat (first | exact HB1.out | apply below_drewN | refine Below.setCell ?_ (by simp) _)
            case measure => simp [intOf]; omega
        · cases hao0
          obtain ⟨b', off', hao', _, _, g3, g4⟩ := HS.out.below hbel j hj
          cases hao'
          generalize gs[j].val = v0 at *
          generalize gs[j].conf = c0 at *
          have x3 : w1.cell? ⟨b, off + j * 4 + 2, none⟩ = some (.int .i64 v0) := by rw [← HWR.out]; exact cell_below g3 ((Below.refl _ _).alloc (Nat.le_refl _) _)
          have x4 : w1.cell? ⟨b, off + j * 4 + 2 + 1, none⟩ = some (.int .i64 c0) := by rw [← HWR.out]; exact cell_below g4 ((Below.refl _ _).alloc (Nat.le_refl _) _)
          have x4' : w1.cell? ⟨b, off + j * 4 + 3, none⟩ = some (.int .i64 c0) := x4
          subst hf0
          clear g3 g4
          cases hv : (vk == v0) <;> cases hc : (ck == c0)
          all_goals
            have HOK : Hid ((gs.take (k + 1)).all (ok none) = V) := by unfold Hid; rw [HVS.out]; simp [ok]
            all_goals
              go_wp2
              rw [HWR.out]
              go_quiet (fail)
              go_wp2
              go_quiet (fail)
              go_wp2
              go_roundw
              case rel =>
                refine ⟨k + 1, by omega, by go_num, .inr ⟨j, b, off, hj, rfl, rfl⟩, ?_, ?_, ?_⟩
                · first | exact HK4.out | exact HK4.out.set_ne (by omega) _ _ | exact (HK4.out.set_ne (by omega) _ _).set_ne (by omega) _ _
                · rw [HOK.out, HTT.out]; first | exact ⟨_, HK5.out⟩ | exact ⟨_, HK5.out.set 0 _⟩ | exact ⟨_, HK5.out.set 1 _⟩ | exact ⟨_, (HK5.out.set 0 _).set 1 _⟩
                · repeat (first | exact HB1.out | apply below_drewN | refine Below.setCell ?_ (by simp) _)
              case measure => simp [intOf]; omega
    · have hke : k = gs.length := by omega
      have z0 : wr.cell? ⟨w.heap.size + 1, 0, none⟩ = some (.bool a) := by rw [HB5.out.cell]; rfl
      have z1 : wr.cell? ⟨w.heap.size + 1, 1, none⟩ = some (.bool V) := by rw [HB5.out.cell]; rfl
      have z2 : wr.cell? ⟨w.heap.size + 1, 2, none⟩ = some (.bool T) := by rw [HB5.out.cell]; rfl
      have f0 : wr.cell? ⟨w.heap.size, 0, none⟩ = some (.bool false) := by rw [HB4.out.cell]; rfl
      have f1 : wr.cell? ⟨w.heap.size, 1, none⟩ = some (.bool false) := by rw [HB4.out.cell]; rfl
      have f2 : wr.cell? ⟨w.heap.size, 2, none⟩ = some (.bool false) := by rw [HB4.out.cell]; rfl
      have f3 : wr.frozen? ⟨w.heap.size, 0, none⟩ = false := HB4.out.free 0
      have f4 : wr.frozen? ⟨w.heap.size, 1, none⟩ = false := HB4.out.free 1
      have f5 : wr.frozen? ⟨w.heap.size, 2, none⟩ = false := HB4.out.free 2
      rw [hke, List.take_of_length_le (Nat.le_refl _)] at hV hT
      have HV : Hid (gs.all (ok none) = V) := hV
      have HT : Hid (gs.all G.dec = T) := hT
      clear hf hke hV hT
      go_wp2
      have hfin := ((HB4.out.set 0 (.bool a)).set 1 (.bool V)).set 2 (.bool T)
      have hbf : Below w.heap.size w (((wr.setCell ⟨w.heap.size, 0, none⟩ (.bool a)).setCell ⟨w.heap.size, 1, none⟩ (.bool V)).setCell ⟨w.heap.size, 2, none⟩ (.bool T)) := ((hbel.setCell (Nat.le_refl _) _).setCell (Nat.le_refl _) _).setCell (Nat.le_refl _) _
      generalize (((wr.setCell ⟨w.heap.size, 0, none⟩ (.bool a)).setCell ⟨w.heap.size, 1, none⟩ (.bool V)).setCell ⟨w.heap.size, 2, none⟩ (.bool T)) = W at *
      have g0 : W.cell? ⟨w.heap.size, 0, none⟩ = some (.bool a) := by rw [hfin.cell]; rfl
      have g1 : W.cell? ⟨w.heap.size, 1, none⟩ = some (.bool V) := by rw [hfin.cell]; rfl
      have g2 : W.cell? ⟨w.heap.size, 2, none⟩ = some (.bool T) := by rw [hfin.cell]; rfl
      refine bodyPost_ret (v := .agg #[.bool a, .bool V, .bool T]) (by simp [results, Try.results29, go_sem, g0, g1, g2]) rfl ⟨a, by rw [HV.out, HT.out], hbf⟩

set_option maxHeartbeats 8000000 in
theorem judgeGradeS (ao : Option Addr) (cap : Nat) (gs : List G) (hl : gs.length ≤ 2000000) (wb : Nat) (wv wc : Int) (w : World) (hs : GsAt w ao gs) (hw0 : w.cell? ⟨wb, 0, none⟩ = some (.int .i64 wv)) (hw1 : w.cell? ⟨wb, 1, none⟩ = some (.int .i64 wc)) :
    Calls Try.prog 29 #[.slice ao gs.length cap, .pointer (some ⟨wb, 0, none⟩)] w fun e w' => RetW (gs.all (ok (some (wv, wc)))) (gs.all G.dec) w e w' := by
  have HS : Hid (GsAt w ao gs) := hs
  have HW0 : Hid (w.cell? ⟨wb, 0, none⟩ = some (.int .i64 wv)) := hw0
  have HW1 : Hid (w.cell? ⟨wb, 1, none⟩ = some (.int .i64 wc)) := hw1
  clear hw0 hw1
  clear hs
  go_enter Try.func29, Try.ntmps29
  go_wp2
  go_loopw [6, 12] (fun f i wr => ∃ k : Nat, k ≤ gs.length ∧ i = .int .i64 k ∧ (f = .pointer none ∨ ∃ j b off, j < gs.length ∧ ao = some ⟨b, off, none⟩ ∧ f = .pointer (some ⟨b, off + j * 4 + 2, none⟩)) ∧ Blk wr w.heap.size #[.bool false, .bool false, .bool false] 35 ∧ (∃ a, Blk wr (w.heap.size + 1) #[.bool a, .bool ((gs.take k).all (ok (some (wv, wc)))), .bool ((gs.take k).all G.dec)] 35) ∧ Below w.heap.size w wr) (fun _ i _ => gs.length - (intOf i).toNat)
  case atStart =>
    refine ⟨0, Nat.zero_le _, rfl, .inl rfl, (Blk.new w _ _).alloc _, ⟨true, ?_⟩, ((Below.refl _ _).alloc (Nat.le_refl _) _).alloc (by simp) _⟩
    have := Blk.new (w.alloc (Obj.cells #[Value.bool false, Value.bool false, Value.bool false] 35)) #[Value.bool true, Value.bool true, Value.bool true] 35
    simpa using this
  case round =>
    obtain ⟨k, hk, rfl, hf, hB4, ⟨a, hB5⟩, hbel⟩ := hrel
    have HB4 : Hid (Blk wr w.heap.size #[.bool false, .bool false, .bool false] 35) := hB4
    obtain ⟨V, hV⟩ : ∃ V, (gs.take k).all (ok (some (wv, wc))) = V := ⟨_, rfl⟩
    obtain ⟨T, hT⟩ : ∃ T, (gs.take k).all G.dec = T := ⟨_, rfl⟩
    rw [hV, hT] at hB5
    have HB5 : Hid (Blk wr (w.heap.size + 1) #[.bool a, .bool V, .bool T] 35) := hB5
    have hq1 := hB5.lt
    have hq2 := hB4.lt
    clear hB4 hB5
    by_cases hlt : k < gs.length
    · obtain ⟨b, off, hao, hc1, hc2, hc3, hc4⟩ := HS.out.below hbel k hlt
      have hx1 : (k : Int) < (gs.length : Int) := by omega
      have HBEL : Hid (Below w.heap.size w wr) := hbel
      have HVS : Hid ((gs.take (k + 1)).all (ok (some (wv, wc))) = (V && ok (some (wv, wc)) gs[k])) := by unfold Hid; rw [take_snoc _ _ hlt, List.all_append, hV]; simp
      have HTS : Hid ((gs.take (k + 1)).all G.dec = (T && gs[k].dec)) := by unfold Hid; rw [take_snoc _ _ hlt, List.all_append, hT]; simp
      generalize hgk : gs[k] = gk at *
      obtain ⟨nk, dk, vk, ck⟩ := gk
      simp only at hc1 hc2 hc3 hc4
      obtain ⟨w1, hw1⟩ : ∃ w1, wr.alloc (Obj.cells #[Value.int .i64 nk, Value.bool dk, Value.int .i64 vk, Value.int .i64 ck] 31) = w1 := ⟨_, rfl⟩
      have hd := Blk.new wr #[Value.int .i64 nk, Value.bool dk, Value.int .i64 vk, Value.int .i64 ck] 31
      rw [hw1] at hd
      have e1 : w1.cell? ⟨wr.heap.size, 2, none⟩ = some (.int .i64 vk) := by rw [hd.cell]; rfl
      have e1' : w1.cell? ⟨wr.heap.size, 3, none⟩ = some (.int .i64 ck) := by rw [hd.cell]; rfl
      have hk5 : Blk w1 (w.heap.size + 1) #[.bool a, .bool V, .bool T] 35 := by rw [← hw1]; exact HB5.out.alloc _
      have HK5 : Hid (Blk w1 (w.heap.size + 1) #[.bool a, .bool V, .bool T] 35) := hk5
      have HK4 : Hid (Blk w1 w.heap.size #[.bool false, .bool false, .bool false] 35) := by unfold Hid; rw [← hw1]; exact HB4.out.alloc _
      have e30 : w1.cell? ⟨w.heap.size + 1, 0, none⟩ = some (.bool a) := by rw [hk5.cell]; rfl
      have e31 : w1.cell? ⟨w.heap.size + 1, 1, none⟩ = some (.bool V) := by rw [hk5.cell]; rfl
      have e32 : w1.cell? ⟨w.heap.size + 1, 2, none⟩ = some (.bool T) := by rw [hk5.cell]; rfl
      have e40 : w1.frozen? ⟨w.heap.size + 1, 0, none⟩ = false := hk5.free 0
      have e41 : w1.frozen? ⟨w.heap.size + 1, 1, none⟩ = false := hk5.free 1
      have e42 : w1.frozen? ⟨w.heap.size + 1, 2, none⟩ = false := hk5.free 2
      have HB1 : Hid (Below w.heap.size w w1) := by unfold Hid; rw [← hw1]; exact hbel.alloc (by omega) _
      have y0 : w1.cell? ⟨wb, 0, none⟩ = some (.int .i64 wv) := by rw [HB1.out.cell (cell_lt HW0.out)]; exact HW0.out
      have y1 : w1.cell? ⟨wb, 1, none⟩ = some (.int .i64 wc) := by rw [HB1.out.cell (cell_lt HW1.out)]; exact HW1.out
      have HWR : Hid (wr.alloc (Obj.cells #[Value.int .i64 nk, Value.bool dk, Value.int .i64 vk, Value.int .i64 ck] 31) = w1) := hw1
      have HF : Hid (f6_ok gs ao u6) := hf
      clear hgk hk5 hw1 hd hV hT
      subst hao
      cases dk
      · -- it has not decided
        clear e1 e1' e30 e40 e31 e32 e41 e42
        have z1 : wr.cell? ⟨w.heap.size + 1, 1, none⟩ = some (.bool V) := by rw [HB5.out.cell]; rfl
        have z2 : wr.cell? ⟨w.heap.size + 1, 2, none⟩ = some (.bool T) := by rw [HB5.out.cell]; rfl
        have z3 : wr.frozen? ⟨w.heap.size + 1, 1, none⟩ = false := HB5.out.free 1
        have z4 : wr.frozen? ⟨w.heap.size + 1, 2, none⟩ = false := HB5.out.free 2
        cases V
        all_goals
          go_wp2
          go_roundw
          case rel =>
            refine ⟨k + 1, by omega, by go_num, HF.out, ((HB4.out.set_ne (by omega) _ _).set_ne (by omega) _ _).alloc _, ⟨a, ?_⟩, ((hbel.setCell (by simp) _).setCell (by simp) _).alloc (by simp [World.setCell]; omega) _⟩
            rw [HVS.out, HTS.out]
            simp only [ok, Bool.and_false, Bool.false_and]
            exact ((HB5.out.set 2 _).set 1 _).alloc _
          case measure => simp [intOf]; omega
      · -- it has decided
        have HTT : Hid ((gs.take (k + 1)).all G.dec = T) := by unfold Hid; rw [HTS.out]; simp
        have hn1 : wr.heap.size ≠ w.heap.size + 1 := by omega
        have hn1' : w.heap.size + 1 ≠ wr.heap.size := by omega
        have hn2 : wb ≠ w.heap.size + 1 := by have := cell_lt HW0.out; simp only at this; omega
        have hn2' : w.heap.size + 1 ≠ wb := Ne.symm hn2
        rcases HF.out with hf0 | ⟨j, b0, off0, hj, hao0, hf0⟩
        · -- the first one
          subst hf0
          cases hwv : (vk == wv) <;> cases hwc : (ck == wc)
          all_goals
            have HOK : Hid ((gs.take (k + 1)).all (ok (some (wv, wc))) = (V && ((vk == wv) && (ck == wc)))) := by unfold Hid; rw [HVS.out]; simp [ok]
            rw [hwv, hwc] at HOK
            simp only [Bool.and_true, Bool.and_false] at HOK
          all_goals
            go_wp2
            rw [HWR.out]
            go_quiet (fail)
            go_wp2
            go_roundw
            case rel =>
              refine ⟨k + 1, by omega, by go_num, .inr ⟨k, b, off, hlt, rfl, rfl⟩, ?_, ⟨a, ?_⟩, ?_⟩
              · first | exact HK4.out | exact HK4.out.set_ne (by omega) _ _
              · rw [HOK.out, HTT.out]; first | exact HK5.out | exact HK5.out.set 1 _
              · repeat (first | exact HB1.out | apply below_drewN | refine Below.setCell ?_ (by simp) _)
            case measure => simp [intOf]; omega
        · cases hao0
          obtain ⟨b', off', hao', _, _, g3, g4⟩ := HS.out.below hbel j hj
          cases hao'
          generalize gs[j].val = v0 at *
          generalize gs[j].conf = c0 at *
          have x3 : w1.cell? ⟨b, off + j * 4 + 2, none⟩ = some (.int .i64 v0) := by rw [← HWR.out]; exact cell_below g3 ((Below.refl _ _).alloc (Nat.le_refl _) _)
          have x4 : w1.cell? ⟨b, off + j * 4 + 2 + 1, none⟩ = some (.int .i64 c0) := by rw [← HWR.out]; exact cell_below g4 ((Below.refl _ _).alloc (Nat.le_refl _) _)
          have x4' : w1.cell? ⟨b, off + j * 4 + 3, none⟩ = some (.int .i64 c0) := x4
          subst hf0
          clear g3 g4
          cases hv : (vk == v0) <;> cases hc : (ck == c0)
          all_goals
            cases hwv : (vk == wv) <;> cases hwc : (ck == wc)
            all_goals
              have HOK : Hid ((gs.take (k + 1)).all (ok (some (wv, wc))) = (V && ((vk == wv) && (ck == wc)))) := by unfold Hid; rw [HVS.out]; simp [ok]
              rw [hwv, hwc] at HOK
              simp only [Bool.and_true, Bool.and_false] at HOK
            all_goals
              go_wp2
              rw [HWR.out]
              go_quiet (fail)
              go_wp2
              go_quiet (fail)
              go_wp2
              go_roundw
              case rel =>
                refine ⟨k + 1, by omega, by go_num, .inr ⟨j, b, off, hj, rfl, rfl⟩, ?_, ?_, ?_⟩
                · first | exact HK4.out | exact HK4.out.set_ne (by omega) _ _ | exact (HK4.out.set_ne (by omega) _ _).set_ne (by omega) _ _
                · rw [HOK.out, HTT.out]; first | exact ⟨_, HK5.out⟩ | exact ⟨_, HK5.out.set 0 _⟩ | exact ⟨_, HK5.out.set 1 _⟩ | exact ⟨_, (HK5.out.set 0 _).set 1 _⟩
                · repeat (first | exact HB1.out | apply below_drewN | refine Below.setCell ?_ (by simp) _)
              case measure => simp [intOf]; omega
    · have hke : k = gs.length := by omega
      have z0 : wr.cell? ⟨w.heap.size + 1, 0, none⟩ = some (.bool a) := by rw [HB5.out.cell]; rfl
      have z1 : wr.cell? ⟨w.heap.size + 1, 1, none⟩ = some (.bool V) := by rw [HB5.out.cell]; rfl
      have z2 : wr.cell? ⟨w.heap.size + 1, 2, none⟩ = some (.bool T) := by rw [HB5.out.cell]; rfl
      have f0 : wr.cell? ⟨w.heap.size, 0, none⟩ = some (.bool false) := by rw [HB4.out.cell]; rfl
      have f1 : wr.cell? ⟨w.heap.size, 1, none⟩ = some (.bool false) := by rw [HB4.out.cell]; rfl
      have f2 : wr.cell? ⟨w.heap.size, 2, none⟩ = some (.bool false) := by rw [HB4.out.cell]; rfl
      have f3 : wr.frozen? ⟨w.heap.size, 0, none⟩ = false := HB4.out.free 0
      have f4 : wr.frozen? ⟨w.heap.size, 1, none⟩ = false := HB4.out.free 1
      have f5 : wr.frozen? ⟨w.heap.size, 2, none⟩ = false := HB4.out.free 2
      rw [hke, List.take_of_length_le (Nat.le_refl _)] at hV hT
      have HV : Hid (gs.all (ok (some (wv, wc))) = V) := hV
      have HT : Hid (gs.all G.dec = T) := hT
      clear hf hke hV hT
      go_wp2
      have hfin := ((HB4.out.set 0 (.bool a)).set 1 (.bool V)).set 2 (.bool T)
      have hbf : Below w.heap.size w (((wr.setCell ⟨w.heap.size, 0, none⟩ (.bool a)).setCell ⟨w.heap.size, 1, none⟩ (.bool V)).setCell ⟨w.heap.size, 2, none⟩ (.bool T)) := ((hbel.setCell (Nat.le_refl _) _).setCell (Nat.le_refl _) _).setCell (Nat.le_refl _) _
      generalize (((wr.setCell ⟨w.heap.size, 0, none⟩ (.bool a)).setCell ⟨w.heap.size, 1, none⟩ (.bool V)).setCell ⟨w.heap.size, 2, none⟩ (.bool T)) = W at *
      have g0 : W.cell? ⟨w.heap.size, 0, none⟩ = some (.bool a) := by rw [hfin.cell]; rfl
      have g1 : W.cell? ⟨w.heap.size, 1, none⟩ = some (.bool V) := by rw [hfin.cell]; rfl
      have g2 : W.cell? ⟨w.heap.size, 2, none⟩ = some (.bool T) := by rw [hfin.cell]; rfl
      refine bodyPost_ret (v := .agg #[.bool a, .bool V, .bool T]) (by simp [results, Try.results29, go_sem, g0, g1, g2]) rfl ⟨a, by rw [HV.out, HT.out], hbf⟩
end Go.Proofs.Qxb6619498a
