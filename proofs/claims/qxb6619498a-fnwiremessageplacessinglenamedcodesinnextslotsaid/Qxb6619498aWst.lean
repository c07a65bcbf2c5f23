import Derived.Test.Qxb6619498aWch
namespace Go.Proofs.Qxb6619498a
open Go.RowKit

/-- The words of rows, one behind the other. -/
def Fr (wd : Nat) (rows : List RowD) (g : Nat) : Nat := match rows[g / wd]? with
  | some r => r.ws.getD (g % wd) 0
  | none => 0
theorem Fr_at {wd c j : Nat} {rows : List RowD} {r : RowD} (hj : j < wd) (hr : rows[c]? = some r) : Fr wd rows (c * wd + j) = r.ws.getD j 0 := by
  unfold Fr
  rw [show (c * wd + j) / wd = c by rw [Nat.mul_comm, Nat.mul_add_div (by omega), Nat.div_eq_of_lt hj, Nat.add_zero], show (c * wd + j) % wd = j by rw [Nat.mul_comm, Nat.mul_add_mod, Nat.mod_eq_of_lt hj], hr]
theorem Fr_zero {wd g : Nat} {rows : List RowD} (hw : 0 < wd) (h : rows.length * wd ≤ g) : Fr wd rows g = 0 := by
  unfold Fr
  have : rows.length ≤ g / wd := (Nat.le_div_iff_mul_le hw).2 h
  rw [List.getElem?_eq_none this]

theorem Copies.chk {L : Nat} {w : World} {bs : List Nat} {rows : List RowD} {n : Nat} (h : Copies L w bs rows) (hw : ∀ r ∈ rows, r.ws.length = 64 * n) (c : Nat) (hc : c < bs.length) : Blk w bs[c] (wordsOf (64 * n) fun j => Fr (64 * n) rows (c * (64 * n) + j)) 54 := by
  obtain ⟨r, h1, h2⟩ := h.blk c hc
  have hl := hw r (List.mem_of_getElem? h1)
  unfold wl at h2
  rw [hl] at h2
  rw [wordsOf_congr (g := fun j => r.ws.getD j 0)]
  · exact h2
  · intro j hj
    exact Fr_at hj h1

theorem nil80 (w : World) (a : Option Addr) (n c : Nat) : (binOp .eql 80 (.slice a n c) (.slice none 0 0)).run Try.prog w = .ok (.bool a.isNone) w := Lib.run_eql_slice_nil w 80 81 a n c 0 0 Try.underlying80

/-- ZZNewFaultyWire. -/
def RetNW (L n : Nat) (rd : Int) (ch us : Nat) (bs : List Nat) (rows : List RowD) (w : World) (e : Ending) (w' : World) : Prop :=
  ∃ P v, e = .returned (.pointer (some ⟨P, 0, none⟩)) ∧ Wire L w' P n rd v bs ch us (Fr (64 * n) rows) ∧ Below w.heap.size w w'

set_option maxHeartbeats 4000000 in
set_option maxRecDepth 100000 in
theorem newWire (L n : Nat) (hn : 1 ≤ n) (hn2 : n ≤ 1024) (rd : Int) (ch us : Nat) (ao : Option Addr) (bs : List Nat) (rows : List RowD) (w : World) (hL : L ≤ w.heap.size) (hbl : bs.length = rows.length) (hl : rows.length ≤ 1000000)
    (hw : ∀ r ∈ rows, r.ws.length = 64 * n) (hao : (ao = none ∧ rows = []) ∨ ∃ N, ao = some ⟨N, 0, none⟩ ∧ Blk w N (partRow n rows.length bs) 41) (hcp : Copies L w bs rows) :
    Calls Try.prog 12 #[.int .i64 (n : Int), .int .i64 rd, .slice ao rows.length rows.length, .int .i64 (ch : Int), .int .i64 (us : Int)] w fun e w' => RetNW L n rd ch us bs rows w e w' := by
  have HCP : Hid (Copies L w bs rows) := hcp
  have HWL : Hid (∀ r ∈ rows, r.ws.length = 64 * n) := hw
  have HBL : Hid (bs.length = rows.length) := hbl
  clear hcp hw hbl
  rcases hao with ⟨rfl, rfl⟩ | ⟨N, rfl, hN⟩
  · go_enter Try.func12, Try.ntmps12
    go_wp2
    go_ret
    have hb0 : bs = [] := List.eq_nil_of_length_eq_zero HBL.out
    subst hb0
    exact ⟨_, _, rfl, ⟨Blk.new _ _ _, World.ownsRow_nil _ _ _ _, fun c hc => by simp at hc, List.nodup_nil, fun b hb => by simp at hb, hL, fun g _ => Fr_zero (by omega) (by simp)⟩, (Below.refl _ _).alloc (Nat.le_refl _) _⟩
  · have HN : Hid (Blk w N (partRow n rows.length bs) 41) := hN
    clear hN
    obtain ⟨C, hC, hmk⟩ := make80 w rows.length (by omega)
    have HC : Hid (C = (List.replicate rows.length (Value.slice none 0 0)).toArray) := hC
    clear hC
    go_enter Try.func12, Try.ntmps12
    go_wp2_with fail
    obtain ⟨w1, hw1⟩ : ∃ w1, w.alloc (Obj.cells C 81) = w1 := ⟨_, rfl⟩
    rw [hw1]
    have b1 : Below w.heap.size w w1 := by rw [← hw1]; exact (Below.refl _ _).alloc (Nat.le_refl _) _
    have HN1 : Hid (Blk w1 w.heap.size (partRow n rows.length (bs.take 0)) 81) := by
      unfold Hid; rw [← hw1]
      have : partRow n rows.length (bs.take 0) = C := by rw [HC.out]; simp [partRow]
      rw [this]; exact Blk.new _ _ _
    clear hw1 hmk
    go_loopw [12] (fun i wr => ∃ k : Nat, k ≤ rows.length ∧ i = .int .i64 k ∧ Blk wr w.heap.size (partRow n rows.length (bs.take k)) 81 ∧ Below w.heap.size w wr) (fun i _ => rows.length - (intOf i).toNat)
    case atStart => exact ⟨0, Nat.zero_le _, rfl, HN1.out, b1⟩
    case round =>
      obtain ⟨k, hk, rfl, hR, hbel⟩ := hrel
      have HR : Hid (Blk wr w.heap.size (partRow n rows.length (bs.take k)) 81) := hR
      by_cases hlt : k < rows.length
      · have hkb : k < bs.length := by rw [HBL.out]; exact hlt
        have hc1 : wr.cell? ⟨N, k, none⟩ = some (cv n bs[k]) := by
          rw [(HN.out.below hbel HN.out.lt).cell, partRow_get hkb]
        obtain ⟨wd, hwd⟩ : ∃ wd, 64 * n = wd := ⟨_, rfl⟩
        have HWD : Hid (64 * n = wd) := hwd
        unfold cv at hc1
        rw [hwd] at hc1
        have hx1 : (k : Int) < (rows.length : Int) := by omega
        have hq1 : ∃ v, wr.cell? ⟨w.heap.size, k, none⟩ = some v := by
          rw [hR.cell]
          have : k < (partRow n rows.length (bs.take k)).size := by rw [partRow_size (by simp; omega)]; exact hlt
          exact ⟨_, Array.getElem?_eq_getElem this⟩
        obtain ⟨vv, hq1⟩ := hq1
        have hq2 := hR.free k
        have HST : Hid (Blk (wr.setCell ⟨w.heap.size, k, none⟩ (.slice (some ⟨bs[k], 0, none⟩) wd wd)) w.heap.size (partRow n rows.length (bs.take (k + 1))) 81) := by
          have := HR.out.set k (cv n bs[k])
          have hkl : (bs.take k).length = k := by simp; omega
          have e := partRow_set (n := n) (m := rows.length) (bs := bs.take k) bs[k] (by omega)
          rw [hkl] at e
          rw [e, ← take_snoc _ _ hkb] at this
          unfold cv at this
          rw [hwd] at this
          exact this
        generalize bs[k] = bk at *
        clear hR hwd
        go_wp2
        go_roundw
        case rel => exact ⟨k + 1, by omega, by go_num, HST.out, hbel.setCell (Nat.le_refl _) _⟩
        case measure => simp [intOf]; omega
      · have hke : k = rows.length := by omega
        subst hke
        clear hR
        go_wp2
        go_ret
        have hR := HR.out
        rw [← HBL.out, List.take_of_length_le (Nat.le_refl _)] at hR
        have hcp : Copies L (wr.alloc (Obj.cells #[Value.int .i64 (n : Int), .int .i64 rd, .slice (some ⟨w.heap.size, 0, none⟩) rows.length rows.length, .int .i64 (ch : Int), .int .i64 (us : Int)] 83)) bs rows := HCP.out.below (hbel.alloc hbel.size _)
        refine ⟨wr.heap.size, _, rfl, ⟨Blk.new _ _ _, ?_, fun c hc => hcp.chk HWL.out c hc, hcp.nod, hcp.low, by have := hbel.size; omega, fun g hg => Fr_zero (by omega) (by rw [← HBL.out]; exact hg)⟩, hbel.alloc hbel.size _⟩
        refine ⟨by simp, .inr ⟨w.heap.size, rows.length, partRow n bs.length bs, by rw [HBL.out], hL, hR.alloc _, by rw [HBL.out]; exact Nat.le_refl _, by unfold maxLen; omega, by rw [partRow_size (Nat.le_refl _), HBL.out, Nat.mul_one], ?_⟩⟩
        simp [partRow]
        exact List.take_of_length_le (by simp)

/-- ZZWireState. -/
def RetWS (n : Nat) (rd : Int) (ch us : Nat) (cs : List Nat) (w : World) (e : Ending) (w' : World) : Prop :=
  ∃ M, e = .returned (.tuple #[.int .i64 (n : Int), .int .i64 rd, .int .i64 (ch : Int), .int .i64 (us : Int), .slice (some ⟨M, 0, none⟩) cs.length cs.length]) ∧ Blk w' M (partRow n cs.length cs) 41 ∧ Below w.heap.size w w'

set_option maxHeartbeats 4000000 in
set_option maxRecDepth 100000 in
theorem wireState {L P n : Nat} {rd : Int} {v : Value} {cs : List Nat} {ch us : Nat} {F : Nat → Nat} (w : World) (hW : Wire L w P n rd v cs ch us F) (hc0 : 0 < cs.length) (hl : cs.length ≤ 1000000) :
    Calls Try.prog 14 #[.pointer (some ⟨P, 0, none⟩)] w fun e w' => RetWS n rd ch us cs w e w' := by
  have HW : Hid (Wire L w P n rd v cs ch us F) := hW
  obtain ⟨g, cap, hv, hLg, hgc⟩ := hW.arr hc0
  have HG : Hid (∀ c (hc : c < cs.length), w.cell? ⟨g, c, none⟩ = some (cv n cs[c])) := hgc
  have HV : Hid (v = .slice (some ⟨g, 0, none⟩) cs.length cap) := hv
  have hw0 := hW.wire
  rw [hv] at hw0
  have HWR : Hid (Blk w P #[.int .i64 (n : Int), .int .i64 rd, .slice (some ⟨g, 0, none⟩) cs.length cap, .int .i64 (ch : Int), .int .i64 (us : Int)] 83) := hw0
  have c2 : w.cell? ⟨P, 2, none⟩ = some (.slice (some ⟨g, 0, none⟩) cs.length cap) := by rw [hw0.cell]; rfl
  clear hW hgc hv hw0
  obtain ⟨C, hC, hmk⟩ := make38 w cs.length (by omega)
  have HC : Hid (C = (List.replicate cs.length (Value.slice none 0 0)).toArray) := hC
  clear hC
  go_enter Try.func14, Try.ntmps14
  go_wp2_with fail
  obtain ⟨w1, hw1⟩ : ∃ w1, w.alloc (Obj.cells C 41) = w1 := ⟨_, rfl⟩
  rw [hw1]
  have b1 : Below w.heap.size w w1 := by rw [← hw1]; exact (Below.refl _ _).alloc (Nat.le_refl _) _
  have HN1 : Hid (Blk w1 w.heap.size (partRow n cs.length (cs.take 0)) 41) := by
    unfold Hid; rw [← hw1]
    have : partRow n cs.length (cs.take 0) = C := by rw [HC.out]; simp [partRow]
    rw [this]; exact Blk.new _ _ _
  clear hw1 hmk c2
  go_loopw [7] (fun i wr => ∃ k : Nat, k ≤ cs.length ∧ i = .int .i64 k ∧ Blk wr w.heap.size (partRow n cs.length (cs.take k)) 41 ∧ Below w.heap.size w wr) (fun i _ => cs.length - (intOf i).toNat)
  case atStart => exact ⟨0, Nat.zero_le _, rfl, HN1.out, b1⟩
  case round =>
    obtain ⟨k, hk, rfl, hR, hbel⟩ := hrel
    have HR : Hid (Blk wr w.heap.size (partRow n cs.length (cs.take k)) 41) := hR
    have hwr := HWR.out.below hbel HWR.out.lt
    have c0 : wr.cell? ⟨P, 0, none⟩ = some (.int .i64 (n : Int)) := by rw [hwr.cell]; rfl
    have c1 : wr.cell? ⟨P, 1, none⟩ = some (.int .i64 rd) := by rw [hwr.cell]; rfl
    have c2 : wr.cell? ⟨P, 2, none⟩ = some (.slice (some ⟨g, 0, none⟩) cs.length cap) := by rw [hwr.cell]; rfl
    have c3 : wr.cell? ⟨P, 3, none⟩ = some (.int .i64 (ch : Int)) := by rw [hwr.cell]; rfl
    have c4 : wr.cell? ⟨P, 4, none⟩ = some (.int .i64 (us : Int)) := by rw [hwr.cell]; rfl
    clear hwr
    by_cases hlt : k < cs.length
    · have hc1 : wr.cell? ⟨g, k, none⟩ = some (cv n cs[k]) := cell_below (HG.out k hlt) hbel
      obtain ⟨wd, hwd⟩ : ∃ wd, 64 * n = wd := ⟨_, rfl⟩
      unfold cv at hc1
      rw [hwd] at hc1
      have hx1 : (k : Int) < (cs.length : Int) := by omega
      have hq1 : ∃ v, wr.cell? ⟨w.heap.size, k, none⟩ = some v := by
        rw [hR.cell]
        have : k < (partRow n cs.length (cs.take k)).size := by rw [partRow_size (by simp; omega)]; exact hlt
        exact ⟨_, Array.getElem?_eq_getElem this⟩
      obtain ⟨vv, hq1⟩ := hq1
      have hq2 := hR.free k
      have HST : Hid (Blk (wr.setCell ⟨w.heap.size, k, none⟩ (.slice (some ⟨cs[k], 0, none⟩) wd wd)) w.heap.size (partRow n cs.length (cs.take (k + 1))) 41) := by
        have := HR.out.set k (cv n cs[k])
        have hkl : (cs.take k).length = k := by simp; omega
        have e := partRow_set (n := n) (m := cs.length) (bs := cs.take k) cs[k] (by omega)
        rw [hkl] at e
        rw [e, ← take_snoc _ _ hlt] at this
        unfold cv at this
        rw [hwd] at this
        exact this
      generalize cs[k] = bk at *
      clear hR hwd
      go_wp2
      go_roundw
      case rel => exact ⟨k + 1, by omega, by go_num, HST.out, hbel.setCell (Nat.le_refl _) _⟩
      case measure => simp [intOf]; omega
    · have hke : k = cs.length := by omega
      subst hke
      clear hR
      go_wp2
      go_quiet (fail)
      go_wp2
      refine bodyPost_ret (v := .tuple #[.int .i64 (n : Int), .int .i64 rd, .int .i64 (ch : Int), .int .i64 (us : Int), .slice (some ⟨w.heap.size, 0, none⟩) cs.length cs.length]) (by simp [results, Try.results14, go_sem]) rfl ⟨w.heap.size, rfl, ?_, below_drewN hbel _⟩
      have hR := HR.out
      rw [List.take_of_length_le (Nat.le_refl _)] at hR
      exact hR.still ⟨_, rfl⟩
end Go.Proofs.Qxb6619498a
