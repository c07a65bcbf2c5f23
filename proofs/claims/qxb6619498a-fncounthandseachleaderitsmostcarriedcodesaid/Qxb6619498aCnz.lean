import Derived.Test.Qxb6619498aCnt
namespace Go.Proofs.Qxb6619498a
open Go.RowKit

theorem clear0 (w : World) (mb block : Nat) : (Builtin.clear_ #[92] 0 #[.slice (some ⟨mb, 0, none⟩) 0 block]).run Try.prog w = .ok (.tuple #[]) w := by
  simp [Builtin.clear_, run_underlying Try.underlying92]

set_option maxHeartbeats 8000000 in
set_option maxRecDepth 100000 in
theorem count28z (L nd wsb kb hb mb cb H width block K : Nat) (n t step : Int) (fi : Nat) (hs : List HM) (cds : List CD) (w : World) (hH : hs.length = H) (hH2 : H ≤ 4096) (hL : L ≤ w.heap.size) (hlow : L ≤ wsb) (hfk : fi ≤ 4096)
    (hnd : Blk w nd (ndArr n t cb K wsb) 99) (hws : Blk w wsb (wsArr hb H width block kb mb (.slice none 0 0)) 94) (hkb : Blk w kb (wordsOf (block * width) fun _ => 0) 54) (hmb : Blk w mb (intsOf (block * 2) fun _ => 0) 102)
    (C0 : Array Value) (hcb : Blk w cb C0 90) (hC0 : CastsIn C0 cds) (hhn : HeardN w hb kb hs) (hbody : ∀ h ∈ hs, fi ≤ h.ws.length) :
    Calls Try.prog 28 #[.pointer (some ⟨nd, 0, none⟩), .int .i64 step, .int .i64 (fi : Int), .int .i64 (fi : Int)] w fun e w' => e = .returned (.tuple #[]) ∧ Done L w w' nd wsb kb hb mb cb H width block K n t step fi fi (bodies hs) cds := by
  have HND : Hid (Blk w nd (ndArr n t cb K wsb) 99) := hnd
  have HWS : Hid (Blk w wsb (wsArr hb H width block kb mb (.slice none 0 0)) 94) := hws
  have HKB : Hid (Blk w kb (wordsOf (block * width) fun _ => 0) 54) := hkb
  have HMB : Hid (Blk w mb (intsOf (block * 2) fun _ => 0) 102) := hmb
  have HCB : Hid (Blk w cb C0 90) := hcb
  have HC0 : Hid (CastsIn C0 cds) := hC0
  have HHN : Hid (HeardN w hb kb hs) := hhn
  have HBD : Hid (∀ h ∈ hs, fi ≤ h.ws.length) := hbody
  have HHL : Hid (hs.length = H) := hH
  have q0 : w.cell? ⟨nd, 12, none⟩ = some (.pointer (some ⟨wsb, 0, none⟩)) := by rw [hnd.cell]; rfl
  have q1 : w.cell? ⟨wsb, 0, none⟩ = some (.slice (some ⟨hb, 0, none⟩) H H) := by rw [hws.cell]; rfl
  clear hnd hws hkb hmb hcb hC0 hhn hbody hH
  have w1 : IntKind.i64.wrap ((fi : Int) - (fi : Int)) = 0 := by simp; decide
  have hff : fi - fi = 0 := by omega
  go_enter Try.func28, Try.ntmps28
  go_wp2_with fail
  go_loopw [32] (fun i wr => ∃ h : Nat, h ≤ H ∧ i = .int .i64 h ∧ (∀ b D t, Blk w b D t → Blk wr b D t) ∧ Below L w wr) (fun i _ => H - (intOf i).toNat)
  case atStart => exact ⟨0, Nat.zero_le _, rfl, fun _ _ _ h => h, Below.refl _ _⟩
  case round =>
    obtain ⟨h, hh, rfl, hkp, hbel⟩ := hrel
    have HKP : Hid (∀ b D t, Blk w b D t → Blk wr b D t) := hkp
    by_cases hlt : h < H
    · have hhl : h < hs.length := by rw [HHL.out]; exact hlt
      obtain ⟨D, hD, hDc⟩ := HHN.out
      have hDr := hkp _ _ _ hD
      obtain ⟨d0, d1, d2⟩ := hDc h hhl
      have bl1 := HBD.out _ (List.getElem_mem hhl)
      have e0 : wr.cell? ⟨hb, h * 2, none⟩ = some (.int .i64 hs[h].fr) := by rw [hDr.cell]; exact d0
      have e1 : wr.cell? ⟨hb, h * 2 + 1, none⟩ = some (.slice hs[h].ao hs[h].ws.length hs[h].ws.length) := by rw [hDr.cell]; exact d1
      have hx1 : (h : Int) < (H : Int) := by omega
      have hLr : L ≤ wr.heap.size := Nat.le_trans hL hbel.size
      generalize hs[h] = g at *
      obtain ⟨fr, gao, gcap, ws⟩ := g
      simp only at e0 e1 bl1 d2
      clear hD hDc hDr d0 d1 hkp
      obtain ⟨wn, hwn⟩ : ∃ wn, ws.length = wn := ⟨_, rfl⟩
      have HWN : Hid (ws.length = wn) := hwn
      rw [hwn] at e1 bl1
      have hs2 : (fi : Int) ≤ (wn : Int) := by omega
      rcases d2 with ⟨rfl, d3⟩ | ⟨bb, rfl, _, _⟩
      · have hw0 : wn = 0 := by rw [← hwn, d3]; rfl
        clear hwn d3
        subst hw0
        go_wp2_with fail
        go_loopw [11, 42] (fun at_ i wx => at_ = .int .i64 0 ∧ i = .int .i64 0 ∧ (∀ b D t, Blk w b D t → Blk wx b D t) ∧ Below L w wx) (fun _ _ _ => 0)
        case atStart => exact ⟨rfl, rfl, fun b D t hB => (HKP.out b D t hB).alloc _, hbel.alloc hLr _⟩
        case round =>
          obtain ⟨rfl, rfl, k1, k2⟩ := hrel
          have HK1 : Hid (∀ b D t, Blk w b D t → Blk wr b D t) := k1
          clear k1
          go_wp2
          go_roundw
          case rel => exact ⟨h + 1, by omega, by go_num, HK1.out, k2⟩
          case measure => simp [intOf]; omega
      · clear hwn
        by_cases hcf : wn = fi
        · subst hcf
          go_wp2_with fail
          go_loopw [11, 42] (fun at_ i wx => at_ = .int .i64 0 ∧ i = .int .i64 0 ∧ (∀ b D t, Blk w b D t → Blk wx b D t) ∧ Below L w wx) (fun _ _ _ => 0)
          case atStart => exact ⟨rfl, rfl, fun b D t hB => (HKP.out b D t hB).alloc _, hbel.alloc hLr _⟩
          case round =>
            obtain ⟨rfl, rfl, k1, k2⟩ := hrel
            have HK1 : Hid (∀ b D t, Blk w b D t → Blk wr b D t) := k1
            clear k1
            go_wp2
            go_roundw
            case rel => exact ⟨h + 1, by omega, by go_num, HK1.out, k2⟩
            case measure => simp [intOf]; omega
        · have hcf2 : ¬ (wn - fi = 0) := by omega
          go_wp2_with fail
          go_loopw [11, 42] (fun at_ i wx => at_ = .int .i64 0 ∧ i = .int .i64 0 ∧ (∀ b D t, Blk w b D t → Blk wx b D t) ∧ Below L w wx) (fun _ _ _ => 0)
          case atStart => exact ⟨rfl, rfl, fun b D t hB => (HKP.out b D t hB).alloc _, hbel.alloc hLr _⟩
          case round =>
            obtain ⟨rfl, rfl, k1, k2⟩ := hrel
            have HK1 : Hid (∀ b D t, Blk w b D t → Blk wr b D t) := k1
            clear k1
            go_wp2
            go_roundw
            case rel => exact ⟨h + 1, by omega, by go_num, HK1.out, k2⟩
            case measure => simp [intOf]; omega
    · have hx1 : decide ((h : Int) < (H : Int)) = false := by rw [decide_eq_false_iff_not]; omega
      have hWr := hkp _ _ _ HWS.out
      have c4 : wr.cell? ⟨wsb, 4, none⟩ = some (.slice none 0 0) := by rw [hWr.cell]; rfl
      have c5 : wr.cell? ⟨wsb, 5, none⟩ = some (.slice (some ⟨mb, 0, none⟩) block block) := by rw [hWr.cell]; rfl
      have f4 := hWr.free 4
      have hclr := fun w' => clear0 w' mb block
      have HDN : Hid (Done L w (wr.setCell ⟨wsb, 4, none⟩ (.slice none 0 0)) nd wsb kb hb mb cb H width block K n t step fi fi (bodies hs) cds) := by
        have hW := HKP.out _ _ _ HWS.out
        have pass : ∀ b D t, t ≠ 94 → Blk w b D t → Blk (wr.setCell ⟨wsb, 4, none⟩ (.slice none 0 0)) b D t := fun b D t ht hB => (HKP.out b D t hB).set_ne ((HKP.out b D t hB).type_ne hW ht) _ _
        refine ⟨pass _ _ _ (by decide) HND.out, ⟨none, 0, hW.set 4 _⟩, pass _ _ _ (by decide) HKB.out, ?_, ⟨C0, cds, pass _ _ _ (by decide) HCB.out, HC0.out, rfl, fun j hj => ?_⟩, hbel.setCell hlow _⟩
        · rw [intsOf_congr (g := fun _ => 0)]
          · exact pass _ _ _ (by decide) HMB.out
          · intro x _
            unfold mfun
            rw [if_neg (by omega)]
        · rw [if_neg (by omega)]
          simp [hj]
      clear hWr hkp
      go_wp2_with fail
      go_loopw [99] (fun i wx => i = .int .i64 0 ∧ wx = wr) (fun _ _ => 0)
      case atStart => exact ⟨rfl, rfl⟩
      case round =>
        obtain ⟨rfl, hww⟩ := hrel
        subst hww
        go_wp2_with fail
        go_loopw [175] (fun i wx => i = .int .i64 0 ∧ wx = wr.setCell ⟨wsb, 4, none⟩ (.slice none 0 0)) (fun _ _ => 0)
        case atStart => exact ⟨rfl, rfl⟩
        case round =>
          obtain ⟨rfl, hww⟩ := hrel
          have HWW : Hid _ := hww
          clear hww
          go_wp2
          go_end0
          rw [HWW.out]
          exact ⟨rfl, HDN.out⟩
end Go.Proofs.Qxb6619498a
