import Derived.Test.Qxb6619498aRun
namespace Go.Proofs.Qxb6619498a
open Go.RowKit

/-- Parts as they came in. -/
def RawAt (w : World) (ao : Option Addr) (ps : List (Int × Int)) : Prop := ∀ j (h : j < ps.length), ∃ b off, ao = some ⟨b, off, none⟩ ∧ w.cell? ⟨b, off + j * 2, none⟩ = some (.int .i64 ps[j].1) ∧ w.cell? ⟨b, off + j * 2 + 1, none⟩ = some (.int .i64 ps[j].2)
theorem RawAt.below {w w' : World} {ao : Option Addr} {ps : List (Int × Int)} (h : RawAt w ao ps) (hb : Below w.heap.size w w') : RawAt w' ao ps := by
  intro j hj
  obtain ⟨b, off, h1, h2, h3⟩ := h j hj
  exact ⟨b, off, h1, cell_below h2 hb, cell_below h3 hb⟩
/-- Parts in range, as pairs of natural numbers. -/
def natp (ps : List (Int × Int)) : List Pt := ps.map fun p => (p.1.toNat, p.2.toNat)
def RawIn (n : Nat) (ps : List (Int × Int)) : Prop := ∀ p ∈ ps, 0 ≤ p.1 ∧ p.1 < (n : Int) ∧ 1 ≤ p.2 ∧ p.2 ≤ 4294967294
theorem natp_length (ps : List (Int × Int)) : (natp ps).length = ps.length := by simp [natp]
theorem RawIn.pts {n : Nat} {ps : List (Int × Int)} (h : RawIn n ps) : PtsIn n (natp ps) := by
  intro q hq
  simp only [natp, List.mem_map] at hq
  obtain ⟨p, hp, rfl⟩ := hq
  have := h p hp
  simp only
  omega
theorem RawAt.ps {w : World} {ao : Option Addr} {n : Nat} {ps : List (Int × Int)} (h : RawAt w ao ps) (hi : RawIn n ps) : PsAt w ao (natp ps) := by
  intro j hj
  have hj' : j < ps.length := by rw [natp_length] at hj; exact hj
  obtain ⟨b, off, h1, h2, h3⟩ := h j hj'
  have := hi _ (List.getElem_mem hj')
  refine ⟨b, off, h1, ?_, ?_⟩
  · rw [h2]; simp [natp]; omega
  · rw [h3]; simp [natp]; omega

/-- One call of the script. -/
structure CallD where
  rd : Int
  ao : Option Addr
  cap : Nat
  ps : List (Int × Int)
def CallsAt (w : World) (ao : Option Addr) (cl : List CallD) : Prop := ∀ j (h : j < cl.length), ∃ b off, ao = some ⟨b, off, none⟩ ∧ w.cell? ⟨b, off + j * 2, none⟩ = some (.int .i64 cl[j].rd) ∧ w.cell? ⟨b, off + j * 2 + 1, none⟩ = some (.slice cl[j].ao cl[j].ps.length cl[j].cap) ∧ RawAt w cl[j].ao cl[j].ps
theorem CallsAt.below {w w' : World} {ao : Option Addr} {cl : List CallD} (h : CallsAt w ao cl) (hb : Below w.heap.size w w') : CallsAt w' ao cl := by
  intro j hj
  obtain ⟨b, off, h1, h2, h3, h4⟩ := h j hj
  exact ⟨b, off, h1, cell_below h2 hb, cell_below h3 hb, h4.below hb⟩

/-- Some bool, and nothing done. -/
def AnyB (w : World) (e : Ending) (w' : World) : Prop := (∃ b, e = .returned (.bool b)) ∧ w' = w

set_option maxHeartbeats 2000000 in
set_option maxRecDepth 100000 in
theorem bytes17 (n : Int) (ao : Option Addr) (cap : Nat) (cl : List CallD) (w : World) (hs : CallsAt w ao cl) :
    Calls Try.prog 17 #[.int .i64 n, .slice ao cl.length cap] w fun e w' => AnyB w e w' := by
  have HS : Hid (CallsAt w ao cl) := hs
  clear hs
  by_cases hbig : 1048576 < cl.length
  · go_enter Try.func17, Try.ntmps17
    go_wp2
    go_ret
    exact ⟨⟨false, rfl⟩, rfl⟩
  have hbd : decide ((1048576 : Int) < (cl.length : Int)) = false := by rw [decide_eq_false_iff_not]; omega
  go_enter Try.func17, Try.ntmps17
  go_wp2
  go_loop [5, 6] (fun z i => ∃ (k : Nat) (y : Int), k ≤ cl.length ∧ i = .int .i64 k ∧ z = .int .i64 y) (fun _ i => cl.length - (intOf i).toNat)
  case atStart => exact ⟨0, _, Nat.zero_le _, rfl, rfl⟩
  case round =>
    obtain ⟨k, y, hk, rfl, rfl⟩ := hrel
    by_cases hlt : k < cl.length
    · obtain ⟨b, off, rfl, _, hc2, _⟩ := HS.out k hlt
      have hx1 : (k : Int) < (cl.length : Int) := by omega
      generalize cl[k] = c at *
      obtain ⟨rd, pao, pcap, ps⟩ := c
      simp only at hc2
      by_cases h1 : (1048576 : Int) < (ps.length : Int)
      · have hd1 : decide ((1048576 : Int) < (ps.length : Int)) = true := by rw [decide_eq_true_iff]; exact h1
        go_wp2
        go_ret
        exact ⟨⟨false, rfl⟩, rfl⟩
      have hd1 : decide ((1048576 : Int) < (ps.length : Int)) = false := by rw [decide_eq_false_iff_not]; exact h1
      obtain ⟨y2, hy2⟩ : ∃ y2, IntKind.i64.wrap (y + (ps.length : Int)) = y2 := ⟨_, rfl⟩
      by_cases h2 : (1048576 : Int) < y2
      · have hd2 : decide ((1048576 : Int) < y2) = true := by rw [decide_eq_true_iff]; exact h2
        go_wp2
        go_ret
        exact ⟨⟨false, rfl⟩, rfl⟩
      have hd2 : decide ((1048576 : Int) < y2) = false := by rw [decide_eq_false_iff_not]; exact h2
      go_wp2
      go_round
      case rel => exact ⟨k + 1, _, by omega, by go_num, rfl⟩
      case measure => simp [intOf]; omega
    · have hke : k = cl.length := by omega
      subst hke
      go_wp2
      go_ret
      exact ⟨⟨true, rfl⟩, rfl⟩

set_option maxHeartbeats 2000000 in
set_option maxRecDepth 100000 in
theorem newWire0 (n : Nat) (w : World) :
    Calls Try.prog 12 #[.int .i64 (n : Int), .int .i64 0, .slice none 0 0, .int .i64 0, .int .i64 0] w fun e w' => e = .returned (.pointer (some ⟨w.heap.size, 0, none⟩)) ∧ Wire w.heap.size w' w.heap.size n 0 (.slice none 0 0) [] 0 (0 * n) (fun _ => 0) ∧ Below w.heap.size w w' := by
  go_enter Try.func12, Try.ntmps12
  go_wp2
  go_ret
  refine ⟨rfl, ⟨?_, World.ownsRow_nil _ _ _ _, fun c hc => by simp at hc, List.nodup_nil, fun b hb => by simp at hb, Nat.le_refl _, fun g _ => rfl⟩, (Below.refl _ _).alloc (Nat.le_refl _) _⟩
  rw [Nat.zero_mul]
  exact Blk.new _ _ _

set_option maxHeartbeats 2000000 in
set_option maxRecDepth 100000 in
theorem zzmessage_of {L P n : Nat} {r : Int} {cs : List Nat} {s : Nat} {qs : List Pt} {F : Nat → Nat} (a b c : Value) (w : World) (h : Calls Try.prog 27 #[a, b, c] w fun e w' => RetM L P n r cs s qs F w e w') :
    Calls Try.prog 13 #[a, b, c] w fun e w' => RetM L P n r cs s qs F w e w' := by
  have H : Hid (Calls Try.prog 27 #[a, b, c] w fun e w' => RetM L P n r cs s qs F w e w') := h
  clear h
  go_enter Try.func13, Try.ntmps13
  go_wp2_with fail
  refine Calls.mono H.out ?_
  rintro e w' ⟨v', cs', bb, rfl, hR⟩
  have HR : Hid _ := hR
  clear hR H
  go_wp2
  go_ret
  exact ⟨v', cs', bb, rfl, HR.out⟩
end Go.Proofs.Qxb6619498a
