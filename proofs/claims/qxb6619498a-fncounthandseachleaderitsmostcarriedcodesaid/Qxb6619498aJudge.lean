import Derived.Test.Qxb6619498aBase
namespace Go.Proofs.Qxb6619498a
open Go.RowKit

/-- One entry of a slice of decisions over int, all decided. -/
structure D where
  node : Int
  val : Int

def DsAt (w : World) (ao : Option Addr) (ds : List D) : Prop :=
  ∀ j (h : j < ds.length), ∃ b off, ao = some ⟨b, off, none⟩ ∧ w.cell? ⟨b, off + j * 3, none⟩ = some (.int .i64 ds[j].node) ∧ w.cell? ⟨b, off + j * 3 + 1, none⟩ = some (.bool true) ∧ w.cell? ⟨b, off + j * 3 + 2, none⟩ = some (.int .i64 ds[j].val)

theorem DsAt.below {w w' : World} {ao : Option Addr} {ds : List D} (h : DsAt w ao ds) (hb : Below w.heap.size w w') : DsAt w' ao ds := by
  intro j hj
  obtain ⟨b, off, h0, h1, h2, h3⟩ := h j hj
  exact ⟨b, off, h0, cell_below h1 hb, cell_below h2 hb, cell_below h3 hb⟩

/-- All values are the first one. -/
def agree (vs : List Int) : Bool := vs.all fun v => v == vs.headD 0

theorem agree_step {vs : List Int} {k : Nat} (h : k < vs.length) (h0 : 0 < k) : agree (vs.take (k + 1)) = (agree (vs.take k) && (vs[k] == vs[0])) := by
  have e : ∀ n, 0 < n → (vs.take n).headD 0 = vs[0] := by
    intro n hn
    cases vs with
    | nil => simp at h
    | cons a l => cases n with
      | zero => omega
      | succ n => simp
  unfold agree
  rw [e _ (by omega), e _ h0, take_snoc _ _ h, List.all_append]
  simp
theorem agree_one {vs : List Int} (h : 0 < vs.length) : agree (vs.take 1) = true := by
  cases vs with
  | nil => simp at h
  | cons a l => simp [agree]

def vals (ds : List D) : List Int := ds.map D.val

def RetV (a v t : Bool) (w : World) (e : Ending) (w' : World) : Prop := e = .returned (.agg #[.bool a, .bool v, .bool t]) ∧ Below w.heap.size w w'

set_option maxHeartbeats 2000000 in
theorem judgeInt (ao : Option Addr) (cap : Nat) (ds : List D) (hl : ds.length ≤ 2000000) (w : World) (hs : DsAt w ao ds) :
    Calls Try.prog 30 #[.slice ao ds.length cap, .pointer none] w fun e w' => RetV (agree (vals ds)) true true w e w' := by
  have HS : Hid (DsAt w ao ds) := hs
  clear hs
  go_enter Try.func30, Try.ntmps30
  go_wp2
  go_loopw [6, 12] (fun f i wr => ∃ k : Nat, k ≤ ds.length ∧ i = .int .i64 k ∧ ((k = 0 ∧ f = .pointer none) ∨ (0 < k ∧ ∃ b off, ao = some ⟨b, off, none⟩ ∧ f = .pointer (some ⟨b, off + 2, none⟩))) ∧ Blk wr w.heap.size #[.bool false, .bool false, .bool false] 35 ∧ Blk wr (w.heap.size + 1) #[.bool (agree ((vals ds).take k)), .bool true, .bool true] 35 ∧ Below w.heap.size w wr) (fun _ i _ => ds.length - (intOf i).toNat)
  case atStart =>
    refine ⟨0, Nat.zero_le _, rfl, .inl ⟨rfl, rfl⟩, (Blk.new w _ _).alloc _, ?_, ((Below.refl _ _).alloc (Nat.le_refl _) _).alloc (by simp) _⟩
    have := Blk.new (w.alloc (Obj.cells #[Value.bool false, Value.bool false, Value.bool false] 35)) #[Value.bool true, Value.bool true, Value.bool true] 35
    simpa [agree] using this
  case round =>
    obtain ⟨k, hk, rfl, hf, hB4, hB5, hbel⟩ := hrel
    have HB4 : Hid (Blk wr w.heap.size #[.bool false, .bool false, .bool false] 35) := hB4
    have HB5 : Hid (Blk wr (w.heap.size + 1) #[.bool (agree ((vals ds).take k)), .bool true, .bool true] 35) := hB5
    have hq1 := hB5.lt
    have hq2 := hB4.lt
    clear hB4 hB5
    by_cases hlt : k < ds.length
    · obtain ⟨b, off, hao, hc1, hc2, hc3⟩ := HS.out.below hbel k hlt
      have hx1 : (k : Int) < (ds.length : Int) := by omega
      have hbl := cell_lt hc1
      have hvl : k < (vals ds).length := by simpa [vals] using hlt
      have hst := agree_step (vs := vals ds) (k := k) hvl
      have HST : Hid (0 < k → agree ((vals ds).take (k + 1)) = (agree ((vals ds).take k) && (ds[k].val == ds[0].val))) := by
        intro h0; rw [hst h0]; simp [vals]
      have HON : Hid (agree ((vals ds).take 1) = true) := agree_one (by omega)
      have HBEL : Hid (Below w.heap.size w wr) := hbel
      obtain ⟨b0, off0, hao0, _, _, hc0⟩ := HS.out.below hbel 0 (by omega)
      simp only [Nat.zero_mul, Nat.add_zero] at hc0
      subst hao
      cases hao0
      clear hst
      generalize hnk : ds[k].node = nk at *
      generalize hvk : ds[k].val = vk at *
      generalize hv0 : ds[0].val = v0 at *
      obtain ⟨w1, hw1⟩ : ∃ w1, wr.alloc (Obj.cells #[Value.int .i64 nk, Value.bool true, Value.int .i64 vk] 96) = w1 := ⟨_, rfl⟩
      have e1 : w1.cell? ⟨wr.heap.size, 2, none⟩ = some (.int .i64 vk) := by rw [← hw1]; exact ((Blk.new wr _ _).cell 2).trans rfl
      have e2 : w1.cell? ⟨b, off + 2, none⟩ = some (.int .i64 v0) := by rw [← hw1]; exact cell_below hc0 ((Below.refl _ _).alloc (Nat.le_refl _) _)
      have hk5 : Blk w1 (w.heap.size + 1) #[.bool (agree ((vals ds).take k)), .bool true, .bool true] 35 := by rw [← hw1]; exact HB5.out.alloc _
      have HK5 : Hid (Blk w1 (w.heap.size + 1) #[.bool (agree ((vals ds).take k)), .bool true, .bool true] 35) := hk5
      have HK4 : Hid (Blk w1 w.heap.size #[.bool false, .bool false, .bool false] 35) := by unfold Hid; rw [← hw1]; exact HB4.out.alloc _
      have e3 : w1.cell? ⟨w.heap.size + 1, 0, none⟩ = some (.bool (agree ((vals ds).take k))) := by rw [hk5.cell]; rfl
      have e4 : w1.frozen? ⟨w.heap.size + 1, 0, none⟩ = false := hk5.free 0
      have HB1 : Hid (Below w.heap.size w w1) := by unfold Hid; rw [← hw1]; exact hbel.alloc (by omega) _
      have HW1 : Hid (wr.alloc (Obj.cells #[Value.int .i64 nk, Value.bool true, Value.int .i64 vk] 96) = w1) := hw1
      clear hnk hvk hv0 hk5 hw1
      rcases hf with ⟨hk0, rfl⟩ | ⟨hk0, b', off', hao', rfl⟩
      · subst hk0
        simp only [Nat.zero_mul, Nat.add_zero] at hc1 hc2 hc3
        clear hc0 e2
        go_wp2
        rw [HW1.out]
        go_quiet (fail)
        go_wp2
        go_roundw
        case rel => exact ⟨1, by omega, by go_num, .inr ⟨by omega, b, off, rfl, rfl⟩, HK4.out, by rw [HON.out]; exact HK5.out, below_drewN HB1.out _⟩
        case measure => simp [intOf]; omega
      · cases hao'
        cases hq : (vk == v0)
        · have hqn : (vk != v0) = true := by simp [bne, hq]
          have HE : Hid (agree ((vals ds).take (k + 1)) = false) := by unfold Hid; rw [HST.out hk0, hq]; simp
          go_wp2
          rw [HW1.out]
          go_quiet (fail)
          go_wp2
          go_quiet (fail)
          go_wp2
          go_roundw
          case rel => exact ⟨k + 1, by omega, by go_num, .inr ⟨by omega, b, off, rfl, rfl⟩, HK4.out.set_ne (by omega) _ _, by rw [HE.out]; exact HK5.out.set 0 _, below_drewN ((below_drewN HB1.out _).setCell (by simp) _) _⟩
          case measure => simp [intOf]; omega
        · have hqn : (vk != v0) = false := by simp [bne, hq]
          have HE : Hid (agree ((vals ds).take (k + 1)) = agree ((vals ds).take k)) := by unfold Hid; rw [HST.out hk0, hq]; simp
          go_wp2
          rw [HW1.out]
          go_quiet (fail)
          go_wp2
          go_quiet (fail)
          go_wp2
          go_roundw
          case rel => exact ⟨k + 1, by omega, by go_num, .inr ⟨by omega, b, off, rfl, rfl⟩, HK4.out, by rw [HE.out]; exact HK5.out, below_drewN HB1.out _⟩
          case measure => simp [intOf]; omega
    · have hke : k = ds.length := by omega
      have e0 : wr.cell? ⟨w.heap.size + 1, 0, none⟩ = some (.bool (agree ((vals ds).take k))) := by rw [HB5.out.cell]; rfl
      have e1 : wr.cell? ⟨w.heap.size + 1, 1, none⟩ = some (.bool true) := by rw [HB5.out.cell]; rfl
      have e2 : wr.cell? ⟨w.heap.size + 1, 2, none⟩ = some (.bool true) := by rw [HB5.out.cell]; rfl
      have f0 : wr.cell? ⟨w.heap.size, 0, none⟩ = some (.bool false) := by rw [HB4.out.cell]; rfl
      have f1 : wr.cell? ⟨w.heap.size, 1, none⟩ = some (.bool false) := by rw [HB4.out.cell]; rfl
      have f2 : wr.cell? ⟨w.heap.size, 2, none⟩ = some (.bool false) := by rw [HB4.out.cell]; rfl
      have f3 : wr.frozen? ⟨w.heap.size, 0, none⟩ = false := HB4.out.free 0
      have f4 : wr.frozen? ⟨w.heap.size, 1, none⟩ = false := HB4.out.free 1
      have f5 : wr.frozen? ⟨w.heap.size, 2, none⟩ = false := HB4.out.free 2
      have HKE : Hid (k = ds.length) := hke
      clear hf hke
      go_wp2
      have hfin := ((HB4.out.set 0 (.bool (agree ((vals ds).take k)))).set 1 (.bool true)).set 2 (.bool true)
      have hbf : Below w.heap.size w (((wr.setCell ⟨w.heap.size, 0, none⟩ (.bool (agree ((vals ds).take k)))).setCell ⟨w.heap.size, 1, none⟩ (.bool true)).setCell ⟨w.heap.size, 2, none⟩ (.bool true)) := ((hbel.setCell (Nat.le_refl _) _).setCell (Nat.le_refl _) _).setCell (Nat.le_refl _) _
      have hke := HKE.out
      subst hke
      have hvs : (vals ds).take ds.length = vals ds := List.take_of_length_le (by simp [vals])
      rw [hvs] at hfin hbf ⊢
      generalize (((wr.setCell ⟨w.heap.size, 0, none⟩ (.bool (agree (vals ds)))).setCell ⟨w.heap.size, 1, none⟩ (.bool true)).setCell ⟨w.heap.size, 2, none⟩ (.bool true)) = W at *
      have g0 : W.cell? ⟨w.heap.size, 0, none⟩ = some (.bool (agree (vals ds))) := by rw [hfin.cell]; rfl
      have g1 : W.cell? ⟨w.heap.size, 1, none⟩ = some (.bool true) := by rw [hfin.cell]; rfl
      have g2 : W.cell? ⟨w.heap.size, 2, none⟩ = some (.bool true) := by rw [hfin.cell]; rfl
      refine bodyPost_ret (v := .agg #[.bool (agree (vals ds)), .bool true, .bool true]) (by simp [results, Try.results30, go_sem, g0, g1, g2]) rfl ⟨rfl, hbf⟩
end Go.Proofs.Qxb6619498a
