import Derived.Test.Qxb6619794aShare
namespace Go.Proofs.Qxb6619794a
open Go.RowKit

def IdxAt (w : World) (ao : Option Addr) (ids : List Nat) : Prop :=
  ∀ j (h : j < ids.length), ∃ b off, ao = some ⟨b, off, none⟩ ∧ w.cell? ⟨b, off + j, none⟩ = some (.int .i64 ((ids[j] : Nat) : Int))
theorem IdxAt.below {w w' : World} {ao : Option Addr} {ids : List Nat} (h : IdxAt w ao ids) (hb : Below w.heap.size w w') : IdxAt w' ao ids := by
  intro j hj
  obtain ⟨b, off, h1, h2⟩ := h j hj
  exact ⟨b, off, h1, cell_below h2 hb⟩
theorem IdxAt.still {w w' : World} {ao : Option Addr} {ids : List Nat} (h : IdxAt w ao ids) (hb : Still w w') : IdxAt w' ao ids := h.below (hb.below _)
theorem SlicesAt.still {w w' : World} {ao : Option Addr} {ts : List SV} (h : SlicesAt w ao ts) (hb : Still w w') : SlicesAt w' ao ts := h.below (hb.below _)

theorem own_cells {w : World} {B : Nat} {t : TypeId} {v : Value} {n : Nat} {xs : List Value} (h : w.ownsRow B t 1 v n xs) : ∃ ao cap, v = .slice ao n cap ∧ ∀ j, j < n → ∃ b, ao = some ⟨b, 0, none⟩ ∧ w.cell? ⟨b, j, none⟩ = xs[j]? := by
  rcases h.2 with ⟨rfl, h0⟩ | ⟨g, cap, cur, rfl, _⟩
  · exact ⟨none, 0, by rw [h0], fun j hj => by omega⟩
  · exact ⟨_, cap, rfl, fun j hj => ⟨g, rfl, h.cellAt j (by omega)⟩⟩

theorem OwnI.idx {w : World} {B : Nat} {v : Value} {ids : List Nat} (h : OwnI w B v ids) : ∃ ao cap, v = .slice ao ids.length cap ∧ IdxAt w ao ids := by
  obtain ⟨ao, cap, hv, hc⟩ := own_cells h
  refine ⟨ao, cap, hv, fun j hj => ?_⟩
  obtain ⟨b, hb, hcell⟩ := hc j hj
  exact ⟨b, 0, hb, by rw [Nat.zero_add, hcell]; simp [idxVals, hj]⟩
theorem OwnT.slices {w : World} {B : Nat} {v : Value} {ts : List SV} (h : OwnT w B v ts) : ∃ ao cap, v = .slice ao ts.length cap ∧ SlicesAt w ao ts := by
  obtain ⟨ao, cap, hv, hc⟩ := own_cells h
  refine ⟨ao, cap, hv, fun j hj => ?_⟩
  obtain ⟨b, hb, hcell⟩ := hc j hj
  exact ⟨b, 0, hb, by rw [Nat.zero_add, hcell]; simp [hj]⟩

set_option maxHeartbeats 4000000 in
theorem untouched_any (ao : Option Addr) (cap : Nat) (sss : List (List ByteArray)) (io : Option Addr) (ic : Nat) (ids : List Nat) (so : Option Addr) (sc : Nat) (ts : List SV) (hts : ts.length = ids.length) (hl : ids.length ≤ 2000000) (hlen : ∀ ss ∈ sss, ss.length ≤ 2000000)
    (w : World) (hs : RowsAt w ao sss) (hi : IdxAt w io ids) (ht : SlicesAt w so ts) (hall : ∀ j (h : j < ids.length) (h2 : j < ts.length), ∃ hc : ids[j] < sss.length, ts[j].2.1 = sss[ids[j]].length ∧ StrsAt w ts[j].1 sss[ids[j]]) :
    Calls Try.prog 21 #[.slice ao sss.length cap, .slice io ids.length ic, .slice so ts.length sc] w fun e w' => e = .returned (.bool true) ∧ Still w w' := by
  have HS : Hid (RowsAt w ao sss) := hs
  have HI : Hid (IdxAt w io ids) := hi
  have HT : Hid (SlicesAt w so ts) := ht
  have HA : Hid (∀ j (h : j < ids.length) (h2 : j < ts.length), ∃ hc : ids[j] < sss.length, ts[j].2.1 = sss[ids[j]].length ∧ StrsAt w ts[j].1 sss[ids[j]]) := hall
  have HL : Hid (∀ ss ∈ sss, ss.length ≤ 2000000) := hlen
  have HTS : Hid (ts.length = ids.length) := hts
  clear hs hi ht hall hlen hts
  go_enter Try.func21, Try.ntmps21
  go_wp2
  go_loopw [7] (fun i wr => ∃ k : Nat, k ≤ ids.length ∧ i = .int .i64 k ∧ Still w wr) (fun i _ => ids.length - (intOf i).toNat)
  case atStart => exact ⟨0, Nat.zero_le _, rfl, Still.refl _⟩
  case round =>
    obtain ⟨k, hk, rfl, hst⟩ := hrel
    by_cases hlt : k < ids.length
    · have hlt2 : k < ts.length := by rw [HTS.out]; exact hlt
      obtain ⟨hc, htl, hstr⟩ := HA.out k hlt hlt2
      obtain ⟨b1, o1, hio, hc1⟩ := HI.out.still hst k hlt
      subst hio
      obtain ⟨b2, o2, hso, hc2⟩ := HT.out.still hst k hlt2
      subst hso
      obtain ⟨b3, o3, c3, cc3, hao, hc3, hst3⟩ := HS.out.still hst _ hc
      subst hao
      have hstr := hstr.still hst
      have hlk := HL.out _ (List.getElem_mem hc)
      unfold sv at hc2
      rw [htl] at hc2
      generalize sss[ids[k]] = ss at *
      generalize ts[k].1 = to at *
      generalize ts[k].2.2 = tc at *
      have hx1 : (k : Int) < (ids.length : Int) := by omega
      have hx2 : (k : Int) < (ts.length : Int) := by omega
      have hx3 : ((ids[k] : Nat) : Int) < (sss.length : Int) := by omega
      generalize ids[k] = q at *
      have HQ : Hid (∀ nq, Calls Try.prog 23 #[.slice to ss.length tc, .slice c3 ss.length cc3] (wr.drewN nq) fun e w' => e = .returned (.bool true) ∧ ∃ nn, w' = (wr.drewN nq).drewN nn) := fun nq => equal_same to c3 tc cc3 ss hlk (wr.drewN nq) (hstr.drewN nq) (hst3.drewN nq)
      clear htl hstr hst3
      go_wp2
      go_quiet ((go_at_call 23; exact Calls.quiet_of (HQ.out _)))
      go_wp2
      go_roundw
      case rel => exact ⟨k + 1, by omega, by go_num, hst.drewN _⟩
      case measure => simp [intOf]; omega
    · go_wp2
      go_ret
      exact ⟨rfl, hst⟩
end Go.Proofs.Qxb6619794a
