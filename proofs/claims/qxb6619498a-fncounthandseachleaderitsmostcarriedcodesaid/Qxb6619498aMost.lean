import Derived.Test.Qxb6619498aCv
import Derived.Test.Qxb6619498aWcl
namespace Go.Proofs.Qxb6619498a
open Go.RowKit

/-- A heard message as it came in. -/
structure HM where
  fr : Int
  ao : Option Addr
  cap : Nat
  ws : List Nat
def HeardAt (w : World) (ao : Option Addr) (hs : List HM) : Prop := ∀ j (h : j < hs.length), ∃ b off, ao = some ⟨b, off, none⟩ ∧ w.cell? ⟨b, off + j * 2, none⟩ = some (.int .i64 hs[j].fr) ∧ w.cell? ⟨b, off + j * 2 + 1, none⟩ = some (.slice hs[j].ao hs[j].ws.length hs[j].cap) ∧ WO w hs[j].ao hs[j].ws
theorem HeardAt.below {w w' : World} {ao : Option Addr} {hs : List HM} (h : HeardAt w ao hs) (hb : Below w.heap.size w w') : HeardAt w' ao hs := by
  intro j hj
  obtain ⟨b, off, h1, h2, h3, h4⟩ := h j hj
  exact ⟨b, off, h1, cell_below h2 hb, cell_below h3 hb, h4.below hb⟩
def bodies (hs : List HM) : List (List Nat) := hs.map HM.ws
theorem bodies_take (hs : List HM) (k : Nat) : (bodies hs).take k = bodies (hs.take k) := by simp [bodies, List.map_take]

/-- zzMostCarried -/
def RetMC (p : Nat × Nat) (w : World) (e : Ending) (w' : World) : Prop := e = .returned (.tuple #[.int .i64 (p.1 : Int), .int .i64 (p.2 : Int)]) ∧ w' = w

set_option maxHeartbeats 4000000 in
set_option maxRecDepth 100000 in
theorem most24 (ao : Option Addr) (cap : Nat) (hs : List HM) (l width : Nat) (hl : hs.length ≤ 1000000) (hw : width ≤ 1000000) (hw1 : 1 ≤ width) (hin : ∀ h ∈ hs, l < h.ws.length ∧ ∀ y ∈ h.ws, y ≤ 4294967295) (w : World) (hh : HeardAt w ao hs) :
    Calls Try.prog 24 #[.slice ao hs.length cap, .int .i64 (l : Int), .int .i64 (width : Int)] w fun e w' => RetMC (mostOf width l (bodies hs)) w e w' := by
  have HH : Hid (HeardAt w ao hs) := hh
  have HIN : Hid (∀ h ∈ hs, l < h.ws.length ∧ ∀ y ∈ h.ws, y ≤ 4294967295) := hin
  clear hh hin
  go_enter Try.func24, Try.ntmps24
  go_wp2_with fail
  go_loop [8, 9, 10] (fun bc bk i => ∃ (k : Nat) (p : Nat × Nat), k + 1 ≤ width ∧ i = .int .i64 ((k + 1 : Nat) : Int) ∧ p = (List.range k).foldl (fun m i => scan m (i + 1) (num l (i + 1) (bodies hs))) (0, 0) ∧ bc = .int .i64 (p.1 : Int) ∧ bk = .int .i64 (p.2 : Int)) (fun _ _ i => width - (intOf i).toNat)
  case atStart => exact ⟨0, (0, 0), hw1, rfl, rfl, rfl, rfl⟩
  case round =>
    obtain ⟨k, p, hk, rfl, hp, rfl, rfl⟩ := hrel
    have HPP : Hid (p = (List.range k).foldl (fun m i => scan m (i + 1) (num l (i + 1) (bodies hs))) (0, 0)) := hp
    clear hp
    obtain ⟨c, hc⟩ : ∃ c, k + 1 = c := ⟨_, rfl⟩
    have HC : Hid (k + 1 = c) := hc
    rw [hc] at hk ⊢
    clear hc
    by_cases hlt : c < width
    · have hx1 : (c : Int) < (width : Int) := by omega
      go_wp2_with fail
      go_loop [11, 12] (fun kk i => ∃ j : Nat, j ≤ hs.length ∧ i = .int .i64 j ∧ kk = .int .i64 ((num l c (bodies (hs.take j)) : Nat) : Int)) (fun _ i => hs.length - (intOf i).toNat)
      case atStart => exact ⟨0, Nat.zero_le _, rfl, by simp [num, bodies]⟩
      case round =>
        obtain ⟨j, hj, rfl, rfl⟩ := hrel
        by_cases hjl : j < hs.length
        · obtain ⟨b, off, rfl, _, hc2, hwo⟩ := HH.out j hjl
          have hy1 : (j : Int) < (hs.length : Int) := by omega
          obtain ⟨hlw, hws⟩ := HIN.out _ (List.getElem_mem hjl)
          obtain ⟨b2, o2, ha2, hc3⟩ := hwo l hlw
          have HNS : Hid (num l c (bodies (hs.take (j + 1))) = if hs[j].ws.getD l 0 = c then num l c (bodies (hs.take j)) + 1 else num l c (bodies (hs.take j))) := by
            have hjb : j < (bodies hs).length := by simpa [bodies] using hjl
            have := num_step l c (bs := bodies hs) hjb
            rw [bodies_take, bodies_take] at this
            unfold Hid
            rw [this]
            simp [bodies]
          have hnl := num_le l c (bodies (hs.take j))
          have hnl2 : (bodies (hs.take j)).length ≤ j := by simp [bodies]; omega
          generalize num l c (bodies (hs.take j)) = kk at *
          obtain ⟨y, hy⟩ : ∃ y, hs[j].ws[l] = y := ⟨_, rfl⟩
          have HY : Hid (hs[j].ws.getD l 0 = y) := by unfold Hid; rw [← hy]; simp [hlw]
          rw [hy] at hc3
          rw [HY.out] at HNS
          have hyl : y ≤ 4294967295 := by rw [← hy]; exact hws _ (List.getElem_mem hlw)
          have hwl : (l : Int) < (hs[j].ws.length : Int) := by omega
          have hyw : IntKind.i64.wrap (y : Int) = (y : Int) := wrap_nat _ (by omega)
          clear hws hwo hy HY
          generalize hs[j] = g at *
          obtain ⟨fr, gao, gcap, ws⟩ := g
          simp only at hc2 hc3 hwl ha2 hlw
          subst ha2
          by_cases he : y = c
          · have heb : ((y : Int) == (c : Int)) = true := by simp [he]
            have HE : Hid (y = c) := he
            clear he
            go_wp2
            go_round
            case rel => exact ⟨j + 1, by omega, by go_num, by rw [HNS.out, if_pos HE.out]; go_num⟩
            case measure => simp [intOf]; omega
          · have heb : ((y : Int) == (c : Int)) = false := by simp; omega
            go_wp2
            go_round
            case rel => exact ⟨j + 1, by omega, by go_num, by rw [HNS.out, if_neg he]⟩
            case measure => simp [intOf]; omega
        · have hje : j = hs.length := by omega
          subst hje
          rw [List.take_of_length_le (Nat.le_refl _)]
          obtain ⟨f, hf⟩ : ∃ f, num l c (bodies hs) = f := ⟨_, rfl⟩
          have HF : Hid (num l c (bodies hs) = f) := hf
          rw [hf]
          clear hf
          have HST : Hid ((List.range (k + 1)).foldl (fun m i => scan m (i + 1) (num l (i + 1) (bodies hs))) (0, 0) = scan p c f) := by
            unfold Hid
            rw [mostOf_step, ← HPP.out, HC.out, HF.out]
          obtain ⟨pc, pk⟩ := p
          by_cases hgt : pk < f
          · have hgb : decide ((pk : Int) < (f : Int)) = true := by rw [decide_eq_true_iff]; omega
            have HS2 : Hid (scan (pc, pk) c f = (c, f)) := by unfold Hid scan; rw [if_pos hgt]
            go_wp2
            go_round
            case rel => exact ⟨k + 1, (c, f), by have := HC.out; omega, by have := HC.out; go_num, by rw [HST.out, HS2.out], rfl, rfl⟩
            case measure => simp [intOf]; omega
          · have hgb : decide ((pk : Int) < (f : Int)) = false := by rw [decide_eq_false_iff_not]; omega
            have HS2 : Hid (scan (pc, pk) c f = (pc, pk)) := by unfold Hid scan; rw [if_neg hgt]
            go_wp2
            go_round
            case rel => exact ⟨k + 1, (pc, pk), by have := HC.out; omega, by have := HC.out; go_num, by rw [HST.out, HS2.out], rfl, rfl⟩
            case measure => simp [intOf]; omega
    · have hx1 : decide ((c : Int) < (width : Int)) = false := by rw [decide_eq_false_iff_not]; omega
      go_wp2
      go_ret2
      refine ⟨?_, rfl⟩
      have h1 := HC.out
      have h2 : k = width - 1 := by omega
      unfold mostOf
      rw [← h2, ← HPP.out]
      rfl
end Go.Proofs.Qxb6619498a
