import Derived.Test.Qxb6619498aWcl
namespace Go.Proofs.Qxb6619498a
open Go.RowKit

theorem made_nils (n : Nat) : madeCells #[Value.slice none 0 0] n = ((List.replicate n (Value.slice none 0 0)).toArray) := by
  apply Array.toList_inj.1
  rw [toList_madeCells_one]
theorem make38 (w : World) (n : Nat) (h : n ≤ 2000000) : ∃ C : Array Value, C = (List.replicate n (Value.slice none 0 0)).toArray ∧ (Instr.makeSlice 38 (.int .i64 (n : Int)) (.int .i64 (n : Int))).run Try.prog w = .ok (.slice (some ⟨w.heap.size, 0, none⟩) n n) (w.alloc (.cells C 41)) := by
  refine ⟨_, rfl, ?_⟩
  obtain ⟨i0, hi, hz0, hz1, hz2⟩ := info_parts (P := Try.prog) (e := 41) (z := .slice none 0 0) (size := 1) (bytes := 24) (by kernel_rfl)
  have := run_make (P := Try.prog) w 38 41 i0 (.slice none 0 0) Try.underlying38 hi hz0 .i64 .i64 n n (by omega) (by omega) (by rw [hz2]; omega) (by omega)
  rw [this, hz1, ← made_nils]
  simp [Value.cells]
theorem make80 (w : World) (n : Nat) (h : n ≤ 2000000) : ∃ C : Array Value, C = (List.replicate n (Value.slice none 0 0)).toArray ∧ (Instr.makeSlice 80 (.int .i64 (n : Int)) (.int .i64 (n : Int))).run Try.prog w = .ok (.slice (some ⟨w.heap.size, 0, none⟩) n n) (w.alloc (.cells C 81)) := by
  refine ⟨_, rfl, ?_⟩
  obtain ⟨i0, hi, hz0, hz1, hz2⟩ := info_parts (P := Try.prog) (e := 81) (z := .slice none 0 0) (size := 1) (bytes := 24) (by kernel_rfl)
  have := run_make (P := Try.prog) w 80 81 i0 (.slice none 0 0) Try.underlying80 hi hz0 .i64 .i64 n n (by omega) (by omega) (by rw [hz2]; omega) (by omega)
  rw [this, hz1, ← made_nils]
  simp [Value.cells]

/-- A row whose first k cells are the chunks of bs. -/
def partRow (n m : Nat) (bs : List Nat) : Array Value := (bs.map (cv n) ++ List.replicate (m - bs.length) (Value.slice none 0 0)).toArray
theorem partRow_size {n m : Nat} {bs : List Nat} (h : bs.length ≤ m) : (partRow n m bs).size = m := by simp [partRow]; omega
theorem partRow_get {n m : Nat} {bs : List Nat} {j : Nat} (h : j < bs.length) : (partRow n m bs)[j]? = some (cv n bs[j]) := by
  simp [partRow, List.getElem?_append_left, h]
theorem partRow_set {n m : Nat} {bs : List Nat} (b : Nat) (h : bs.length < m) : (partRow n m bs).setIfInBounds bs.length (cv n b) = partRow n m (bs ++ [b]) := by
  unfold partRow
  simp only [List.setIfInBounds_toArray]
  congr 1
  rw [List.set_append_right _ _ (by simp)]
  simp only [List.length_map, Nat.sub_self, List.map_append, List.map_cons, List.map_nil, List.length_append, List.length_singleton, List.append_assoc]
  congr 1
  obtain ⟨q, hq⟩ : ∃ q, m - bs.length = q + 1 := ⟨m - bs.length - 1, by omega⟩
  rw [hq, show m - (bs.length + 1) = q by omega, List.replicate_succ]
  simp

/-- The chunks of a copy: fresh blocks, each with its row's words. -/
structure Copies (L : Nat) (w : World) (bs : List Nat) (rows : List RowD) : Prop where
  nod : bs.Nodup
  low : ∀ b ∈ bs, L ≤ b
  blk : ∀ j (h : j < bs.length), ∃ r, rows[j]? = some r ∧ Blk w bs[j] (wl r.ws) 54
theorem Copies.imp {L : Nat} {w w' : World} {bs : List Nat} {rows : List RowD} (h : Copies L w bs rows) (hi : ∀ b ∈ bs, ∀ C, Blk w b C 54 → Blk w' b C 54) : Copies L w' bs rows :=
  ⟨h.nod, h.low, fun j hj => by
    obtain ⟨r, h1, h2⟩ := h.blk j hj
    exact ⟨r, h1, hi _ (List.getElem_mem hj) _ h2⟩⟩
theorem Copies.below {L : Nat} {w w' : World} {bs : List Nat} {rows : List RowD} (h : Copies L w bs rows) (hb : Below w.heap.size w w') : Copies L w' bs rows := h.imp fun _ _ _ g => g.below hb g.lt
theorem Copies.lt {L : Nat} {w : World} {bs : List Nat} {rows : List RowD} (h : Copies L w bs rows) {b : Nat} (hb : b ∈ bs) : b < w.heap.size := by
  obtain ⟨q, hq, he⟩ := List.mem_iff_getElem.1 hb
  obtain ⟨r, _, h2⟩ := h.blk q hq
  rw [he] at h2; exact h2.lt
theorem Copies.snoc {L : Nat} {w : World} {bs : List Nat} {rows : List RowD} {b : Nat} {r : RowD} (h : Copies L w bs rows) (hb : L ≤ b) (hn : b ∉ bs) (hr : rows[bs.length]? = some r) (hk : Blk w b (wl r.ws) 54) : Copies L w (bs ++ [b]) rows := by
  refine ⟨?_, ?_, ?_⟩
  · rw [List.nodup_append]
    refine ⟨h.nod, by simp, fun a ha c hc => ?_⟩
    simp at hc; subst hc; intro e; subst e; exact hn ha
  · intro c hc
    rcases List.mem_append.1 hc with g | g
    · exact h.low c g
    · simp at g; omega
  · intro j hj
    rcases Nat.lt_or_ge j bs.length with g | g
    · rw [List.getElem_append_left g]; exact h.blk j g
    · have hje : j = bs.length := by simp at hj; omega
      subst hje
      rw [List.getElem_append_right (by omega)]
      simp only [Nat.sub_self, List.getElem_cons_zero]
      exact ⟨r, hr, hk⟩

/-- zzCloneChunks, of rows of 64 * n words. -/
def RetCC (n : Nat) (rows : List RowD) (w : World) (e : Ending) (w' : World) : Prop :=
  ∃ ao bs, e = .returned (.slice ao rows.length rows.length) ∧ bs.length = rows.length ∧ ((ao = none ∧ rows = []) ∨ ∃ N, ao = some ⟨N, 0, none⟩ ∧ w.heap.size ≤ N ∧ Blk w' N (partRow n rows.length bs) 41) ∧ Copies w.heap.size w' bs rows ∧ Below w.heap.size w w'

set_option maxHeartbeats 4000000 in
set_option maxRecDepth 100000 in
theorem cloneChunks (n : Nat) (hn : 1 ≤ n) (hn2 : n ≤ 1024) (ao : Option Addr) (cap : Nat) (rows : List RowD) (hl : rows.length ≤ 1000000) (hw : ∀ r ∈ rows, r.ws.length = 64 * n) (w : World) (hs : RowsU w ao rows) :
    Calls Try.prog 10 #[.slice ao rows.length cap] w fun e w' => RetCC n rows w e w' := by
  have hnil := nil38
  cases ao with
  | none =>
    obtain rfl := hs.nil
    go_enter Try.func10, Try.ntmps10
    go_wp2
    go_ret
    exact ⟨none, [], rfl, rfl, .inl ⟨rfl, rfl⟩, ⟨List.nodup_nil, fun b hb => by simp at hb, fun j hj => by simp at hj⟩, Below.refl _ _⟩
  | some a0 =>
    have HS : Hid (RowsU w (some a0) rows) := hs
    have HWL : Hid (∀ r ∈ rows, r.ws.length = 64 * n) := hw
    clear hs hw
    obtain ⟨C, hC, hmk⟩ := make38 w rows.length (by omega)
    have HC : Hid (C = (List.replicate rows.length (Value.slice none 0 0)).toArray) := hC
    clear hC
    go_enter Try.func10, Try.ntmps10
    go_wp2_with fail
    obtain ⟨w1, hw1⟩ : ∃ w1, w.alloc (Obj.cells C 41) = w1 := ⟨_, rfl⟩
    rw [hw1]
    have b1 : Below w.heap.size w w1 := by rw [← hw1]; exact (Below.refl _ _).alloc (Nat.le_refl _) _
    have HN1 : Hid (Blk w1 w.heap.size (partRow n rows.length []) 41) := by
      unfold Hid; rw [← hw1]
      have : partRow n rows.length [] = C := by rw [HC.out]; simp [partRow]
      rw [this]; exact Blk.new _ _ _
    clear hw1 hmk
    go_loopw [4] (fun i wr => ∃ (k : Nat) (bs : List Nat), k ≤ rows.length ∧ i = .int .i64 k ∧ bs.length = k ∧ Blk wr w.heap.size (partRow n rows.length bs) 41 ∧ Copies w.heap.size wr bs rows ∧ Below w.heap.size w wr) (fun i _ => rows.length - (intOf i).toNat)
    case atStart => exact ⟨0, [], Nat.zero_le _, rfl, rfl, HN1.out, ⟨List.nodup_nil, fun b hb => by simp at hb, fun j hj => by simp at hj⟩, b1⟩
    case round =>
      obtain ⟨k, bs, hk, rfl, hbk, hN, hcp, hbel⟩ := hrel
      have HBK : Hid (bs.length = k) := hbk
      have HN : Hid (Blk wr w.heap.size (partRow n rows.length bs) 41) := hN
      have HCP : Hid (Copies w.heap.size wr bs rows) := hcp
      clear hcp
      by_cases hlt : k < rows.length
      · obtain ⟨b, off, hao, hc1, hwo⟩ := HS.out.below hbel k hlt
        cases hao
        have hx1 : (k : Int) < (rows.length : Int) := by omega
        have HRK : Hid (rows[k]? = some rows[k]) := List.getElem?_eq_getElem hlt
        have hrl := HWL.out _ (List.getElem_mem hlt)
        have hrm : rows[k].ws.length ≤ 2000000 := by omega
        generalize rows[k] = rk at *
        obtain ⟨pao, pcap, ws⟩ := rk
        simp only at hc1 hwo hrl hrm
        have HRL : Hid (ws.length = 64 * n) := hrl
        clear hrl
        have H19 : Hid (Calls Try.prog 19 #[.slice pao ws.length pcap] wr fun e w' => RetCl ws wr e w') := cloneWords pao pcap ws hrm wr hwo
        have hNl := hN.lt
        clear hwo hN hbk
        go_wp2_with fail
        refine Calls.mono H19.out ?_
        rintro e w2 ⟨ao2, rfl, h2, hb2⟩
        rcases h2 with ⟨_, h0⟩ | ⟨rfl, hblk⟩
        · have hrl := HRL.out; subst h0; simp at hrl; omega
        have HN2 : Hid (Blk w2 w.heap.size (partRow n rows.length bs) 41) := HN.out.below hb2 hNl
        have hq1 : ∃ v, w2.cell? ⟨w.heap.size, k, none⟩ = some v := by
          rw [HN2.out.cell]
          have : k < (partRow n rows.length bs).size := by rw [partRow_size (by have := HBK.out; omega)]; exact hlt
          exact ⟨_, Array.getElem?_eq_getElem this⟩
        obtain ⟨vv, hq1⟩ := hq1
        have hq2 := HN2.out.free k
        have HST : Hid (Blk (w2.setCell ⟨w.heap.size, k, none⟩ (.slice (some ⟨wr.heap.size, 0, none⟩) ws.length ws.length)) w.heap.size (partRow n rows.length (bs ++ [wr.heap.size])) 41 ∧ Copies w.heap.size (w2.setCell ⟨w.heap.size, k, none⟩ (.slice (some ⟨wr.heap.size, 0, none⟩) ws.length ws.length)) (bs ++ [wr.heap.size]) rows ∧ Below w.heap.size w (w2.setCell ⟨w.heap.size, k, none⟩ (.slice (some ⟨wr.heap.size, 0, none⟩) ws.length ws.length))) := by
          have hbk := HBK.out
          refine ⟨?_, ?_, (hbel.trans (hb2.mono hbel.size)).setCell (Nat.le_refl _) _⟩
          · have := HN2.out.set k (cv n wr.heap.size)
            rw [← hbk, partRow_set _ (by omega)] at this
            rw [HRL.out, ← hbk]; exact this
          · have hcp2 : Copies w.heap.size (w2.setCell ⟨w.heap.size, k, none⟩ (.slice (some ⟨wr.heap.size, 0, none⟩) ws.length ws.length)) bs rows := (HCP.out.below hb2).imp fun c _ C g => g.set_ne (g.type_ne HN2.out (by decide)) _ _
            refine hcp2.snoc hbel.size (fun hm => absurd (HCP.out.lt hm) (Nat.lt_irrefl _)) (r := ⟨pao, pcap, ws⟩) (by rw [hbk]; exact HRK.out) ?_
            exact hblk.set_ne (hblk.type_ne HN2.out (by decide)) _ _
        clear hblk hb2 H19
        go_wp2
        go_roundw
        case rel => exact ⟨k + 1, bs ++ [wr.heap.size], by omega, by go_num, by simp [HBK.out], HST.out.1, HST.out.2.1, HST.out.2.2⟩
        case measure => simp [intOf]; omega
      · have hke : k = rows.length := by omega
        clear hN hbk
        go_wp2
        go_ret
        exact ⟨_, bs, rfl, by rw [HBK.out, hke], .inr ⟨_, rfl, Nat.le_refl _, HN.out⟩, HCP.out, hbel⟩
end Go.Proofs.Qxb6619498a
