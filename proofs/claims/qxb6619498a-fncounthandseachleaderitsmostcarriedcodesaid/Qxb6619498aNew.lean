import Derived.Test.Qxb6619498aNws
import Derived.StillTailTactics
namespace Go.Proofs.Qxb6619498a
open Go.RowKit

theorem make85 (w : World) (n : Nat) (h : n ≤ 2000000) : ∃ C : Array Value, C.size = n * 2 ∧ (Instr.makeSlice 85 (.int .i64 (n : Int)) (.int .i64 (n : Int))).run Try.prog w = .ok (.slice (some ⟨w.heap.size, 0, none⟩) n n) (w.alloc (.cells C 87)) := by
  obtain ⟨i0, hi, hz0, hz1, hz2⟩ := info_parts (P := Try.prog) (e := 87) (z := .agg #[.int .i64 0, .slice none 0 0]) (size := 2) (bytes := 32) (by kernel_rfl)
  have := run_make (P := Try.prog) w 85 87 i0 (.agg #[.int .i64 0, .slice none 0 0]) Try.underlying85 hi hz0 .i64 .i64 n n (by omega) (by omega) (by rw [hz2]; omega) (by omega)
  refine ⟨madeCells (Value.cells (.agg #[.int .i64 0, .slice none 0 0])) (n * 2), ?_, ?_⟩
  · rw [size_madeCells]
  · rw [this, hz1]; simp
theorem make88 (w : World) (n : Nat) (h : n ≤ 2000000) : ∃ C : Array Value, C.size = n * 6 ∧ (Instr.makeSlice 88 (.int .i64 (n : Int)) (.int .i64 (n : Int))).run Try.prog w = .ok (.slice (some ⟨w.heap.size, 0, none⟩) n n) (w.alloc (.cells C 90)) := by
  obtain ⟨i0, hi, hz0, hz1, hz2⟩ := info_parts (P := Try.prog) (e := 90) (z := .agg #[.int .i64 0, .int .i64 0, .bool false, .int .i64 0, .int .i64 0, .bool false]) (size := 6) (bytes := 48) (by kernel_rfl)
  have := run_make (P := Try.prog) w 88 90 i0 (.agg #[.int .i64 0, .int .i64 0, .bool false, .int .i64 0, .int .i64 0, .bool false]) Try.underlying88 hi hz0 .i64 .i64 n n (by omega) (by omega) (by rw [hz2]; omega) (by omega)
  refine ⟨madeCells (Value.cells (.agg #[.int .i64 0, .int .i64 0, .bool false, .int .i64 0, .int .i64 0, .bool false])) (n * 6), ?_, ?_⟩
  · rw [size_madeCells]
  · rw [this, hz1]; simp
theorem make92 (w : World) (n : Nat) (h : n ≤ 2000000) : (Instr.makeSlice 92 (.int .i64 (n : Int)) (.int .i64 (n : Int))).run Try.prog w = .ok (.slice (some ⟨w.heap.size, 0, none⟩) n n) (w.alloc (.cells (intsOf (n * 2) fun _ => 0) 102)) := by
  obtain ⟨i0, hi, hz0, hz1, hz2⟩ := info_parts (P := Try.prog) (e := 102) (z := .agg #[.int .i64 0, .int .i64 0]) (size := 2) (bytes := 16) (by kernel_rfl)
  have := run_make (P := Try.prog) w 92 102 i0 (.agg #[.int .i64 0, .int .i64 0]) Try.underlying92 hi hz0 .i64 .i64 n n (by omega) (by omega) (by rw [hz2]; omega) (by omega)
  have e : madeCells (Value.cells (.agg #[.int .i64 0, .int .i64 0])) (n * 2) = intsOf (n * 2) (fun _ => 0) := by
    have hc : Value.cells (.agg #[.int .i64 0, .int .i64 0]) = #[.int .i64 0, .int .i64 0] := rfl
    rw [hc]
    apply Array.ext
    · rw [size_madeCells, intsOf_size]
    · intro i h1 h2
      simp only [madeCells, intsOf, Array.getElem_map, Array.getElem_range, List.getElem_toArray, List.getElem_map]
      have : i % 2 = 0 ∨ i % 2 = 1 := by omega
      rcases this with g | g <;> simp [g]
  rw [this, hz1, ← e]
  simp


/-- ZZNewConsensusNode -/
def RetNN (n t : Int) (width block H K : Nat) (hs : List HM) (cds : List CD) (w : World) (e : Ending) (w' : World) : Prop :=
  ∃ nd wsb hb kb mb cb C0, e = .returned (.pointer (some ⟨nd, 0, none⟩)) ∧ Blk w' nd (ndArr n t cb K wsb) 99 ∧ Blk w' wsb (wsArr hb H width block kb mb (.slice none 0 0)) 94 ∧ Blk w' kb (wordsOf (block * width) fun _ => 0) 54 ∧ Blk w' mb (intsOf (block * 2) fun _ => 0) 102 ∧
    Blk w' cb C0 90 ∧ CastsIn C0 cds ∧ HeardN w' hb kb hs ∧ (w.heap.size ≤ wsb ∧ w.heap.size ≤ kb ∧ w.heap.size ≤ mb ∧ w.heap.size ≤ cb) ∧ Below w.heap.size w w'

theorem Blk.drew {w : World} {b : Nat} {C : Array Value} {t : TypeId} (h : Blk w b C t) : Blk w.drew b C t := h
theorem Blk.new' {w : World} (C : Array Value) (t : TypeId) {b : Nat} (h : w.heap.size = b) : Blk (w.alloc (.cells C t)) b C t := by
  subst h; exact Blk.new w C t
section
variable {n t : Int} {width block H K N M sz : Nat} {hs : List HM} {cds : List CD} {w wr : World} {D C : Array Value}
theorem nnA {v : Value} (hv : v = .pointer (some ⟨wr.heap.size + 1 + 1 + 1, 0, none⟩)) (hN : w.heap.size = N) (hNM : N ≤ M) (hsz : block * width = sz) (hwr : N ≤ wr.heap.size) (hD : Blk wr M D 90) (hCI : CastsIn D cds) (hBN : Blk wr N C 87) (hbel : Below N w wr) (hHN : ∀ (wf : World) (kb : Nat), N ≤ kb → Blk wf N C 87 → Below N w wf → HeardN wf N kb hs) :
    RetNN n t width block H K hs cds w (.returned v)
      ((((wr.alloc (.cells (wordsOf sz fun _ => 0) 54)).alloc (.cells (intsOf (block * 2) fun _ => 0) 102)).alloc (.cells #[.slice (some ⟨N, 0, none⟩) H H, .int .i64 (width : Int), .int .i64 (block : Int), .slice (some ⟨wr.heap.size, 0, none⟩) sz sz, .slice none 0 0, .slice (some ⟨wr.heap.size + 1, 0, none⟩) block block, .slice none 0 0] 94)).alloc
        (.cells #[.int .i64 0, .int .i64 n, .int .i64 t, .int .i64 0, .slice (some ⟨M, 0, none⟩) K K, .slice none 0 0, .int .i64 0, .int .i64 0, .bool false, .int .i64 0, .slice none 0 0, .slice none 0 0, .pointer (some ⟨wr.heap.size + 1 + 1, 0, none⟩)] 99)).drew := by
  subst hsz
  subst hv
  have hb : ∀ o1 o2 o3 o4, Below N w ((((wr.alloc o1).alloc o2).alloc o3).alloc o4).drew := fun o1 o2 o3 o4 =>
    ((((hbel.alloc hwr _).alloc (by rw [World.size_alloc]; omega) _).alloc (by rw [World.size_alloc, World.size_alloc]; omega) _).alloc (by rw [World.size_alloc, World.size_alloc, World.size_alloc]; omega) _).drew
  refine ⟨_, wr.heap.size + 1 + 1, N, wr.heap.size, wr.heap.size + 1, M, D, rfl, ?_, ?_, ?_, ?_, ?_, hCI, ?_, ?_, ?_⟩
  · exact Blk.drew (Blk.new' _ _ (by rw [World.size_alloc, World.size_alloc, World.size_alloc]))
  · exact Blk.drew ((Blk.new' _ _ (by rw [World.size_alloc, World.size_alloc])).alloc _)
  · exact Blk.drew ((((Blk.new' _ _ rfl).alloc _).alloc _).alloc _)
  · exact Blk.drew (((Blk.new' _ _ (by rw [World.size_alloc])).alloc _).alloc _)
  · exact Blk.drew ((((hD.alloc _).alloc _).alloc _).alloc _)
  · exact hHN _ _ hwr (Blk.drew ((((hBN.alloc _).alloc _).alloc _).alloc _)) (hb _ _ _ _)
  · rw [hN]; exact ⟨by omega, by omega, by omega, hNM⟩
  · rw [hN]; exact hb _ _ _ _
theorem nnB {v : Value} (hv : v = .pointer (some ⟨wr.heap.size + 1 + 1 + 1, 0, none⟩)) (hN : w.heap.size = N) (hNM : N ≤ M) (hsz : block * width = sz) (hwr : N ≤ wr.heap.size) (hD : Blk wr M D 90) (hCI : CastsIn D cds) (hBN : Blk wr N C 87) (hbel : Below N w wr) (hHN : ∀ (wf : World) (kb : Nat), N ≤ kb → Blk wf N C 87 → Below N w wf → HeardN wf N kb hs) :
    RetNN n t width block H K hs cds w (.returned v)
      ((((wr.alloc (.cells (intsOf (block * 2) fun _ => 0) 102)).alloc (.cells (wordsOf sz fun _ => 0) 54)).alloc (.cells #[.slice (some ⟨N, 0, none⟩) H H, .int .i64 (width : Int), .int .i64 (block : Int), .slice (some ⟨wr.heap.size + 1, 0, none⟩) sz sz, .slice none 0 0, .slice (some ⟨wr.heap.size, 0, none⟩) block block, .slice none 0 0] 94)).alloc
        (.cells #[.int .i64 0, .int .i64 n, .int .i64 t, .int .i64 0, .slice (some ⟨M, 0, none⟩) K K, .slice none 0 0, .int .i64 0, .int .i64 0, .bool false, .int .i64 0, .slice none 0 0, .slice none 0 0, .pointer (some ⟨wr.heap.size + 1 + 1, 0, none⟩)] 99)).drew := by
  subst hsz
  subst hv
  have hb : ∀ o1 o2 o3 o4, Below N w ((((wr.alloc o1).alloc o2).alloc o3).alloc o4).drew := fun o1 o2 o3 o4 =>
    ((((hbel.alloc hwr _).alloc (by rw [World.size_alloc]; omega) _).alloc (by rw [World.size_alloc, World.size_alloc]; omega) _).alloc (by rw [World.size_alloc, World.size_alloc, World.size_alloc]; omega) _).drew
  refine ⟨_, wr.heap.size + 1 + 1, N, wr.heap.size + 1, wr.heap.size, M, D, rfl, ?_, ?_, ?_, ?_, ?_, hCI, ?_, ?_, ?_⟩
  · exact Blk.drew (Blk.new' _ _ (by rw [World.size_alloc, World.size_alloc, World.size_alloc]))
  · exact Blk.drew ((Blk.new' _ _ (by rw [World.size_alloc, World.size_alloc])).alloc _)
  · exact Blk.drew (((Blk.new' _ _ (by rw [World.size_alloc])).alloc _).alloc _)
  · exact Blk.drew ((((Blk.new' _ _ rfl).alloc _).alloc _).alloc _)
  · exact Blk.drew ((((hD.alloc _).alloc _).alloc _).alloc _)
  · exact hHN _ _ (by omega) (Blk.drew ((((hBN.alloc _).alloc _).alloc _).alloc _)) (hb _ _ _ _)
  · rw [hN]; exact ⟨by omega, by omega, by omega, hNM⟩
  · rw [hN]; exact hb _ _ _ _
end
theorem castFill {D : Array Value} {cds : List CD} {k K : Nat} (hD : D.size = K * 6) (hk : k < K) (hd : ∀ j, j < k → D[j * 6]? = some (fld0 cds j) ∧ D[j * 6 + 1]? = some (fld1 cds j) ∧ D[j * 6 + 2]? = some (fld2 cds j) ∧ D[j * 6 + 3]? = some (fld3 cds j) ∧ D[j * 6 + 4]? = some (fld4 cds j) ∧ D[j * 6 + 5]? = some (fld5 cds j)) {d0 d1 : Int} {d2 : Bool} {d3 d4 : Int} {d5 : Bool} (hc : cds[k]! = ⟨d0, d1, d2, d3, d4, d5⟩) : ∀ j, j < k + 1 → ((((((D.setIfInBounds (k * 6) (.int .i64 d0)).setIfInBounds (k * 6 + 1) (.int .i64 d1)).setIfInBounds (k * 6 + 2) (.bool d2)).setIfInBounds (k * 6 + 3) (.int .i64 d3)).setIfInBounds (k * 6 + 4) (.int .i64 d4)).setIfInBounds (k * 6 + 5) (.bool d5))[j * 6]? = some (fld0 cds j) ∧ ((((((D.setIfInBounds (k * 6) (.int .i64 d0)).setIfInBounds (k * 6 + 1) (.int .i64 d1)).setIfInBounds (k * 6 + 2) (.bool d2)).setIfInBounds (k * 6 + 3) (.int .i64 d3)).setIfInBounds (k * 6 + 4) (.int .i64 d4)).setIfInBounds (k * 6 + 5) (.bool d5))[j * 6 + 1]? = some (fld1 cds j) ∧ ((((((D.setIfInBounds (k * 6) (.int .i64 d0)).setIfInBounds (k * 6 + 1) (.int .i64 d1)).setIfInBounds (k * 6 + 2) (.bool d2)).setIfInBounds (k * 6 + 3) (.int .i64 d3)).setIfInBounds (k * 6 + 4) (.int .i64 d4)).setIfInBounds (k * 6 + 5) (.bool d5))[j * 6 + 2]? = some (fld2 cds j) ∧ ((((((D.setIfInBounds (k * 6) (.int .i64 d0)).setIfInBounds (k * 6 + 1) (.int .i64 d1)).setIfInBounds (k * 6 + 2) (.bool d2)).setIfInBounds (k * 6 + 3) (.int .i64 d3)).setIfInBounds (k * 6 + 4) (.int .i64 d4)).setIfInBounds (k * 6 + 5) (.bool d5))[j * 6 + 3]? = some (fld3 cds j) ∧ ((((((D.setIfInBounds (k * 6) (.int .i64 d0)).setIfInBounds (k * 6 + 1) (.int .i64 d1)).setIfInBounds (k * 6 + 2) (.bool d2)).setIfInBounds (k * 6 + 3) (.int .i64 d3)).setIfInBounds (k * 6 + 4) (.int .i64 d4)).setIfInBounds (k * 6 + 5) (.bool d5))[j * 6 + 4]? = some (fld4 cds j) ∧ ((((((D.setIfInBounds (k * 6) (.int .i64 d0)).setIfInBounds (k * 6 + 1) (.int .i64 d1)).setIfInBounds (k * 6 + 2) (.bool d2)).setIfInBounds (k * 6 + 3) (.int .i64 d3)).setIfInBounds (k * 6 + 4) (.int .i64 d4)).setIfInBounds (k * 6 + 5) (.bool d5))[j * 6 + 5]? = some (fld5 cds j) := by
  intro j hj
  simp only [Array.getElem?_setIfInBounds, Array.size_setIfInBounds, hD]
  by_cases hjk : j = k
  · subst hjk
    unfold fld0 fld1 fld2 fld3 fld4 fld5
    rw [hc]
    exact ⟨by rw [if_neg (by omega), if_neg (by omega), if_neg (by omega), if_neg (by omega), if_neg (by omega), if_pos rfl, if_pos (by omega)], by rw [if_neg (by omega), if_neg (by omega), if_neg (by omega), if_neg (by omega), if_pos rfl, if_pos (by omega)], by rw [if_neg (by omega), if_neg (by omega), if_neg (by omega), if_pos rfl, if_pos (by omega)], by rw [if_neg (by omega), if_neg (by omega), if_pos rfl, if_pos (by omega)], by rw [if_neg (by omega), if_pos rfl, if_pos (by omega)], by rw [if_pos rfl, if_pos (by omega)]⟩
  · obtain ⟨g0, g1, g2, g3, g4, g5⟩ := hd j (by omega)
    exact ⟨by rw [if_neg (by omega), if_neg (by omega), if_neg (by omega), if_neg (by omega), if_neg (by omega), if_neg (by omega)]; exact g0, by rw [if_neg (by omega), if_neg (by omega), if_neg (by omega), if_neg (by omega), if_neg (by omega), if_neg (by omega)]; exact g1, by rw [if_neg (by omega), if_neg (by omega), if_neg (by omega), if_neg (by omega), if_neg (by omega), if_neg (by omega)]; exact g2, by rw [if_neg (by omega), if_neg (by omega), if_neg (by omega), if_neg (by omega), if_neg (by omega), if_neg (by omega)]; exact g3, by rw [if_neg (by omega), if_neg (by omega), if_neg (by omega), if_neg (by omega), if_neg (by omega), if_neg (by omega)]; exact g4, by rw [if_neg (by omega), if_neg (by omega), if_neg (by omega), if_neg (by omega), if_neg (by omega), if_neg (by omega)]; exact g5⟩

set_option maxHeartbeats 8000000 in
set_option maxRecDepth 100000 in
theorem newNode (n t : Int) (width block H K fb : Nat) (bo : Option Addr) (hs : List HM) (L0 L1 L2 L3 L4 L5 : Nat) (cds : List CD) (w : World) (hH : hs.length = H) (hH2 : H ≤ 4096) (hK : cds.length = K) (hK2 : K ≤ 4096) (hbw : block * width ≤ 65536) (hbk : block ≤ 65536)
    (hfr : FilledTo w fb H H 3 (fun j => .int .i64 hs[j]!.fr)) (hbo : ∀ j, j < H → ∃ b, bo = some ⟨b, 0, none⟩ ∧ w.cell? ⟨b, j, none⟩ = some (.slice hs[j]!.ao hs[j]!.ws.length hs[j]!.ws.length))
    (hbd : ∀ j (h : j < hs.length), (hs[j].ao = none ∧ hs[j].ws = []) ∨ ∃ b, hs[j].ao = some ⟨b, 0, none⟩ ∧ Blk w b (wl hs[j].ws) 54)
    (h0 : FilledTo w L0 K K 3 (fld0 cds)) (h1 : FilledTo w L1 K K 3 (fld1 cds)) (h2 : FilledTo w L2 K K 4 (fld2 cds)) (h3 : FilledTo w L3 K K 3 (fld3 cds)) (h4 : FilledTo w L4 K K 3 (fld4 cds)) (h5 : FilledTo w L5 K K 4 (fld5 cds)) :
    Calls Try.prog 20 #[.int .i64 n, .int .i64 t, .int .i64 (width : Int), .int .i64 (block : Int), .slice (some ⟨fb, 0, none⟩) H H, .slice bo H H, .slice (some ⟨L0, 0, none⟩) K K, .slice (some ⟨L1, 0, none⟩) K K, .slice (some ⟨L2, 0, none⟩) K K, .slice (some ⟨L3, 0, none⟩) K K, .slice (some ⟨L4, 0, none⟩) K K, .slice (some ⟨L5, 0, none⟩) K K] w fun e w' => RetNN n t width block H K hs cds w e w' := by
  have HFR : Hid (FilledTo w fb H H 3 (fun j => .int .i64 hs[j]!.fr)) := hfr
  have HBO : Hid (∀ j, j < H → ∃ b, bo = some ⟨b, 0, none⟩ ∧ w.cell? ⟨b, j, none⟩ = some (.slice hs[j]!.ao hs[j]!.ws.length hs[j]!.ws.length)) := hbo
  have HBD : Hid (∀ j (h : j < hs.length), (hs[j].ao = none ∧ hs[j].ws = []) ∨ ∃ b, hs[j].ao = some ⟨b, 0, none⟩ ∧ Blk w b (wl hs[j].ws) 54) := hbd
  have HHL : Hid (hs.length = H) := hH
  have HKL : Hid (cds.length = K) := hK
  have HL0 : Hid (FilledTo w L0 K K 3 (fld0 cds)) := h0
  have HL1 : Hid (FilledTo w L1 K K 3 (fld1 cds)) := h1
  have HL2 : Hid (FilledTo w L2 K K 4 (fld2 cds)) := h2
  have HL3 : Hid (FilledTo w L3 K K 3 (fld3 cds)) := h3
  have HL4 : Hid (FilledTo w L4 K K 3 (fld4 cds)) := h4
  have HL5 : Hid (FilledTo w L5 K K 4 (fld5 cds)) := h5
  clear hfr hbo hbd hH hK h0 h1 h2 h3 h4 h5
  obtain ⟨A, hA, mkA⟩ := make85 w H (by omega)
  have HA : Hid (A.size = H * 2) := hA
  clear hA
  go_enter Try.func20, Try.ntmps20
  go_wp2_with fail
  obtain ⟨N, hN⟩ : ∃ N, w.heap.size = N := ⟨_, rfl⟩
  have HN : Hid (w.heap.size = N) := hN
  obtain ⟨w1, hw1⟩ : ∃ w1, w.alloc (Obj.cells A 87) = w1 := ⟨_, rfl⟩
  rw [hw1]
  have b1 : Below N w w1 := by rw [← hw1, ← hN]; exact (Below.refl _ _).alloc (Nat.le_refl _) _
  have HB1 : Hid (Blk w1 N A 87) := by unfold Hid; rw [← hw1, ← hN]; exact Blk.new _ _ _
  rw [hN]
  clear hw1 mkA hN
  go_loopw [26] (fun i wr => ∃ (k : Nat) (C : Array Value), k ≤ H ∧ i = .int .i64 k ∧ Blk wr N C 87 ∧ C.size = H * 2 ∧ (∀ j, j < k → C[j * 2]? = some (.int .i64 hs[j]!.fr) ∧ C[j * 2 + 1]? = some (.slice hs[j]!.ao hs[j]!.ws.length hs[j]!.ws.length)) ∧ Below N w wr) (fun i _ => H - (intOf i).toNat)
  case atStart => exact ⟨0, A, Nat.zero_le _, rfl, HB1.out, HA.out, fun j hj => by omega, b1⟩
  case round =>
    obtain ⟨k, C, hk, rfl, hB, hC, hc, hbel⟩ := hrel
    have HB : Hid (Blk wr N C 87) := hB
    have HCS : Hid (C.size = H * 2) := hC
    have HCC : Hid (∀ j, j < k → C[j * 2]? = some (.int .i64 hs[j]!.fr) ∧ C[j * 2 + 1]? = some (.slice hs[j]!.ao hs[j]!.ws.length hs[j]!.ws.length)) := hc
    clear hc
    by_cases hlt : k < H
    · have hbw2 : Below w.heap.size w wr := by rw [HN.out]; exact hbel
      have e1 : wr.cell? ⟨fb, k, none⟩ = some (.int .i64 hs[k]!.fr) := (HFR.out.below hbw2).cell hlt
      obtain ⟨bb, hbb, e2'⟩ := HBO.out k hlt
      have e2 := cell_below e2' hbw2
      have q0 : ∃ v, wr.cell? ⟨N, k * 2, none⟩ = some v := ⟨C[k * 2]'(by omega), by rw [hB.cell]; simp⟩
      have q1 : ∃ v, wr.cell? ⟨N, k * 2 + 1, none⟩ = some v := ⟨C[k * 2 + 1]'(by omega), by rw [hB.cell]; simp⟩
      obtain ⟨u0, q0⟩ := q0
      obtain ⟨u1, q1⟩ := q1
      have f0 := hB.free (k * 2)
      have f1 := hB.free (k * 2 + 1)
      have HST : Hid (∀ j, j < k + 1 → ((C.setIfInBounds (k * 2) (.int .i64 hs[k]!.fr)).setIfInBounds (k * 2 + 1) (.slice hs[k]!.ao hs[k]!.ws.length hs[k]!.ws.length))[j * 2]? = some (.int .i64 hs[j]!.fr) ∧ ((C.setIfInBounds (k * 2) (.int .i64 hs[k]!.fr)).setIfInBounds (k * 2 + 1) (.slice hs[k]!.ao hs[k]!.ws.length hs[k]!.ws.length))[j * 2 + 1]? = some (.slice hs[j]!.ao hs[j]!.ws.length hs[j]!.ws.length)) := by
        intro j hj
        simp only [Array.getElem?_setIfInBounds, Array.size_setIfInBounds, hC]
        by_cases hjk : j = k
        · subst hjk
          exact ⟨by rw [if_neg (by omega), if_pos rfl, if_pos (by omega)], by rw [if_pos rfl, if_pos (by omega)]⟩
        · obtain ⟨g1, g2⟩ := HCC.out j (by omega)
          exact ⟨by rw [if_neg (by omega), if_neg (by omega)]; exact g1, by rw [if_neg (by omega), if_neg (by omega)]; exact g2⟩
      have hx1 : (k : Int) < (H : Int) := by omega
      generalize hs[k]! = g at *
      obtain ⟨gf, ga, gc, gw⟩ := g
      simp only at e1 e2 HST
      subst hbb
      clear hB hC hbw2 e2'
      go_wp2_with fail
      go_region
      all_goals
        go_wp2
        go_roundw
        case rel => exact ⟨k + 1, _, by omega, by go_num, (HB.out.set _ _).set _ _, by simp [HCS.out], HST.out, (hbel.drew.setCell (p := ⟨N, k * 2, none⟩) (Nat.le_refl _) _).setCell (p := ⟨N, k * 2 + 1, none⟩) (Nat.le_refl _) _⟩
        case measure => simp [intOf]; omega
    · have hke : k = H := by omega
      have hx1 : decide ((k : Int) < (H : Int)) = false := by rw [decide_eq_false_iff_not]; omega
      have HCH : Hid (∀ j, j < H → C[j * 2]? = some (.int .i64 hs[j]!.fr) ∧ C[j * 2 + 1]? = some (.slice hs[j]!.ao hs[j]!.ws.length hs[j]!.ws.length)) := by have := HCC.out; rw [hke] at this; exact this
      obtain ⟨A2, hA2, mk2⟩ := make88 wr K (by omega)
      have HA2 : Hid (A2.size = K * 6) := hA2
      obtain ⟨M, hM⟩ : ∃ M, wr.heap.size = M := ⟨_, rfl⟩
      have HM2 : Hid (wr.heap.size = M) := hM
      have hNM : N ≤ M := by have := hbel.size; have := HN.out; omega
      have hNM2 : N < M := by have := hB.lt; omega
      clear hB hC hA2 HCC hke
      go_wp2_with fail
      obtain ⟨w2, hw2⟩ : ∃ w2, wr.alloc (Obj.cells A2 90) = w2 := ⟨_, rfl⟩
      rw [hw2]
      have b2 : Below N w w2 := by rw [← hw2]; exact hbel.alloc (by omega) _
      have HB2 : Hid (Blk w2 M A2 90) := by unfold Hid; rw [← hw2, ← hM]; exact Blk.new _ _ _
      have HBN : Hid (Blk w2 N C 87) := by unfold Hid; rw [← hw2]; exact HB.out.alloc _
      clear hw2 mk2 hM hbel
      go_loopw [28] (fun i wx => ∃ (k : Nat) (D : Array Value), k ≤ K ∧ i = .int .i64 k ∧ Blk wx M D 90 ∧ D.size = K * 6 ∧ (∀ j, j < k → D[j * 6]? = some (fld0 cds j) ∧ D[j * 6 + 1]? = some (fld1 cds j) ∧ D[j * 6 + 2]? = some (fld2 cds j) ∧ D[j * 6 + 3]? = some (fld3 cds j) ∧ D[j * 6 + 4]? = some (fld4 cds j) ∧ D[j * 6 + 5]? = some (fld5 cds j)) ∧ Blk wx N C 87 ∧ Below N w wx) (fun i _ => K - (intOf i).toNat)
      case atStart => exact ⟨0, A2, Nat.zero_le _, rfl, HB2.out, HA2.out, fun j hj => by omega, HBN.out, b2⟩
      case round =>
        obtain ⟨k, D, hk, rfl, hB, hD, hd, hBN, hbel⟩ := hrel
        have HDB : Hid (Blk wr M D 90) := hB
        have HDS : Hid (D.size = K * 6) := hD
        have HDD : Hid (∀ j, j < k → D[j * 6]? = some (fld0 cds j) ∧ D[j * 6 + 1]? = some (fld1 cds j) ∧ D[j * 6 + 2]? = some (fld2 cds j) ∧ D[j * 6 + 3]? = some (fld3 cds j) ∧ D[j * 6 + 4]? = some (fld4 cds j) ∧ D[j * 6 + 5]? = some (fld5 cds j)) := hd
        have HBN2 : Hid (Blk wr N C 87) := hBN
        clear hd hBN
        by_cases hlt2 : k < K
        · have hbw2 : Below w.heap.size w wr := by rw [HN.out]; exact hbel
          have e0 : wr.cell? ⟨L0, k, none⟩ = some (.int .i64 cds[k]!.leader) := (HL0.out.below hbw2).cell hlt2
          have q0 : ∃ v, wr.cell? ⟨M, k * 6, none⟩ = some v := ⟨D[k * 6]'(by omega), by rw [hB.cell]; simp⟩
          obtain ⟨u0, q0⟩ := q0
          have f0 := hB.free (k * 6)
          have e1 : wr.cell? ⟨L1, k, none⟩ = some (.int .i64 cds[k]!.next) := (HL1.out.below hbw2).cell hlt2
          have q1 : ∃ v, wr.cell? ⟨M, k * 6 + 1, none⟩ = some v := ⟨D[k * 6 + 1]'(by omega), by rw [hB.cell]; simp⟩
          obtain ⟨u1, q1⟩ := q1
          have f1 := hB.free (k * 6 + 1)
          have e2 : wr.cell? ⟨L2, k, none⟩ = some (.bool cds[k]!.sends) := (HL2.out.below hbw2).cell hlt2
          have q2 : ∃ v, wr.cell? ⟨M, k * 6 + 2, none⟩ = some v := ⟨D[k * 6 + 2]'(by omega), by rw [hB.cell]; simp⟩
          obtain ⟨u2, q2⟩ := q2
          have f2 := hB.free (k * 6 + 2)
          have e3 : wr.cell? ⟨L3, k, none⟩ = some (.int .i64 cds[k]!.gv) := (HL3.out.below hbw2).cell hlt2
          have q3 : ∃ v, wr.cell? ⟨M, k * 6 + 3, none⟩ = some v := ⟨D[k * 6 + 3]'(by omega), by rw [hB.cell]; simp⟩
          obtain ⟨u3, q3⟩ := q3
          have f3 := hB.free (k * 6 + 3)
          have e4 : wr.cell? ⟨L4, k, none⟩ = some (.int .i64 cds[k]!.gc) := (HL4.out.below hbw2).cell hlt2
          have q4 : ∃ v, wr.cell? ⟨M, k * 6 + 4, none⟩ = some v := ⟨D[k * 6 + 4]'(by omega), by rw [hB.cell]; simp⟩
          obtain ⟨u4, q4⟩ := q4
          have f4 := hB.free (k * 6 + 4)
          have e5 : wr.cell? ⟨L5, k, none⟩ = some (.bool cds[k]!.graded) := (HL5.out.below hbw2).cell hlt2
          have q5 : ∃ v, wr.cell? ⟨M, k * 6 + 5, none⟩ = some v := ⟨D[k * 6 + 5]'(by omega), by rw [hB.cell]; simp⟩
          obtain ⟨u5, q5⟩ := q5
          have f5 := hB.free (k * 6 + 5)
          have hx2 : (k : Int) < (K : Int) := by omega
          have HKE0 : ∀ w' : World, Below N w w' → w'.cell? ⟨L0, k, none⟩ = some (.int .i64 cds[k]!.leader) ∧ w'.cell? ⟨L1, k, none⟩ = some (.int .i64 cds[k]!.next) ∧ w'.cell? ⟨L2, k, none⟩ = some (.bool cds[k]!.sends) ∧ w'.cell? ⟨L3, k, none⟩ = some (.int .i64 cds[k]!.gv) ∧ w'.cell? ⟨L4, k, none⟩ = some (.int .i64 cds[k]!.gc) ∧ w'.cell? ⟨L5, k, none⟩ = some (.bool cds[k]!.graded) := by
            intro w' hw'
            rw [← HN.out] at hw'
            exact ⟨(HL0.out.below hw').cell hlt2, (HL1.out.below hw').cell hlt2, (HL2.out.below hw').cell hlt2, (HL3.out.below hw').cell hlt2, (HL4.out.below hw').cell hlt2, (HL5.out.below hw').cell hlt2⟩
          obtain ⟨d, hde⟩ : ∃ d, cds[k]! = d := ⟨_, rfl⟩
          rw [hde] at e0 e1 e2 e3 e4 e5 HKE0
          obtain ⟨d0, d1, d2, d3, d4, d5⟩ := d
          have HDE : Hid (cds[k]! = ⟨d0, d1, d2, d3, d4, d5⟩) := hde
          simp only at e0 e1 e2 e3 e4 e5 HKE0
          clear hde
          clear hB hD hbw2
          clear HKE0
          go_wp2_with fail
          clear HL0 HL1 HL2 HL3 HL4 HL5 HFR HBO HBD HCH HHL HKL HA HB1 b1 HB HCS HA2 HM2 b2 HB2 HBN
          refine wp_region_still_tail 29 (by kernel_rfl) (by kernel_rfl) ?_
          simp only [List.take_succ_cons, List.take_zero, List.drop_succ_cons, List.drop_zero]
          repeat still_step
          try refine wpStill_nil ?_
          go_wp2
          go_roundw
          case rel =>
            refine ⟨k + 1, ((((((D.setIfInBounds (k * 6) (.int .i64 d0)).setIfInBounds (k * 6 + 1) (.int .i64 d1)).setIfInBounds (k * 6 + 2) (.bool d2)).setIfInBounds (k * 6 + 3) (.int .i64 d3)).setIfInBounds (k * 6 + 4) (.int .i64 d4)).setIfInBounds (k * 6 + 5) (.bool d5)), by omega, by go_num, ?_, ?_, ?_, ?_, ?_⟩
            · exact Blk.drew ((((((HDB.out.set _ _).set _ _).set _ _).set _ _).set _ _).set _ _)
            · simp [HDS.out]
            · exact castFill HDS.out hlt2 HDD.out HDE.out
            · have hne : N ≠ M := by omega
              exact Blk.drew ((((((HBN2.out.set_ne hne _ _).set_ne hne _ _).set_ne hne _ _).set_ne hne _ _).set_ne hne _ _).set_ne hne _ _)
            · exact ((((((hbel.setCell (p := ⟨M, k * 6, none⟩) hNM _).setCell (p := ⟨M, k * 6 + 1, none⟩) hNM _).setCell (p := ⟨M, k * 6 + 2, none⟩) hNM _).setCell (p := ⟨M, k * 6 + 3, none⟩) hNM _).setCell (p := ⟨M, k * 6 + 4, none⟩) hNM _).setCell (p := ⟨M, k * 6 + 5, none⟩) hNM _).drew
          case measure => simp [intOf]; omega
        · have hke2 : k = K := by omega
          have hx2 : decide ((k : Int) < (K : Int)) = false := by rw [decide_eq_false_iff_not]; omega
          have HCI : Hid (CastsIn D cds) := by
            have h1 := HKL.out
            refine ⟨by rw [h1]; exact hD, fun q hq => ?_⟩
            have h2 := HDD.out q (by omega)
            have h3 : cds[q]! = cds[q] := by simp [hq]
            unfold fld0 fld1 fld2 fld3 fld4 fld5 at h2
            rw [h3] at h2; exact h2
          obtain ⟨sz, hsz⟩ : ∃ sz, block * width = sz := ⟨_, rfl⟩
          have HSZ : Hid (block * width = sz) := hsz
          have mk41 := fun w' => make41 w' sz (by omega)
          have mk92 := fun w' => make92 w' block (by omega)
          have w1' : IntKind.i64.wrap ((block : Int) * (width : Int)) = (sz : Int) := by
            rw [← hsz, show ((block : Int) * (width : Int)) = ((block * width : Nat) : Int) by simp]
            exact wrap_nat _ (by omega)
          have hwrl : N ≤ wr.heap.size := by have := hbel.size; have := HN.out; omega
          have HHN : Hid (∀ (wf : World) (kb : Nat), N ≤ kb → Blk wf N C 87 → Below N w wf → HeardN wf N kb hs) := by
            intro wf kb hkb hBf hbf
            refine ⟨C, hBf, fun j hj => ?_⟩
            obtain ⟨g1, g2⟩ := HCH.out j (by rw [← HHL.out]; exact hj)
            have h3 : hs[j]! = hs[j] := by simp [hj]
            rw [h3] at g1 g2
            refine ⟨g1, g2, ?_⟩
            rcases HBD.out j hj with h | ⟨b, h4, h5⟩
            · exact .inl h
            · have h6 := h5.lt
              rw [HN.out] at h6
              exact .inr ⟨b, h4, by omega, h5.below hbf h6⟩
          clear hB hD hsz hke2 HDD
          go_wp2_with fail
          go_region
          all_goals
            go_wp2
            go_ret
          · refine nnA ?_ HN.out hNM HSZ.out hwrl HDB.out HCI.out HBN2.out hbel HHN.out
            rfl
          · refine nnB ?_ HN.out hNM HSZ.out hwrl HDB.out HCI.out HBN2.out hbel HHN.out
            rfl
end Go.Proofs.Qxb6619498a
