import Derived.Test.Qxb6619794aCopy
namespace Go.Proofs.Qxb6619794a
open Go.RowKit

def strRow (ss : List ByteArray) : Array Value := (ss.map Value.string).toArray
def rowVals (rs : List Nat) (sss : List (List ByteArray)) : List Value := List.zipWith (fun r ss => Value.slice (some ⟨r, 0, none⟩) ss.length ss.length) rs sss
def nilS : Value := .slice none 0 0

/-- Each of the blocks rs holds one row of sss and nothing more. -/
def OwnEach (B : Nat) (w : World) (rs : List Nat) (sss : List (List ByteArray)) : Prop :=
  rs.length = sss.length ∧ rs.Nodup ∧ ∀ j (h : j < sss.length) (h2 : j < rs.length), B ≤ rs[j] ∧ Blk w rs[j] (strRow sss[j]) 9

/-- The slice at ao holds the rows. -/
def OwnRows (B : Nat) (w : World) (ao : Option Addr) (rs : List Nat) (sss : List (List ByteArray)) : Prop :=
  OwnEach B w rs sss ∧ ((ao = none ∧ sss = []) ∨ ∃ ob, B ≤ ob ∧ ao = some ⟨ob, 0, none⟩ ∧ Blk w ob (rowVals rs sss).toArray 30)

def RetRows (sss : List (List ByteArray)) (w : World) (e : Ending) (w' : World) : Prop :=
  ∃ ao cap rs, e = .returned (.slice ao sss.length cap) ∧ OwnRows w.heap.size w' ao rs sss ∧ Below w.heap.size w w'

theorem strs_of_blk {w : World} {g : Nat} {ss : List ByteArray} (h : Blk w g (strRow ss) 9) : StrsAt w (some ⟨g, 0, none⟩) ss := by
  intro j hj
  exact ⟨g, 0, rfl, by rw [h.cell]; simp [strRow, hj]⟩

theorem OwnRows.rowsAt {B : Nat} {w : World} {ao : Option Addr} {rs : List Nat} {sss : List (List ByteArray)} (h : OwnRows B w ao rs sss) : RowsAt w ao sss := by
  obtain ⟨⟨hl, _, he⟩, h⟩ := h
  intro j hj
  rcases h with ⟨_, rfl⟩ | ⟨ob, _, rfl, hb⟩
  · simp at hj
  · have hj2 : j < rs.length := by omega
    refine ⟨ob, 0, some ⟨rs[j], 0, none⟩, sss[j].length, rfl, ?_, strs_of_blk (he j hj hj2).2⟩
    rw [hb.cell, Nat.zero_add, List.getElem?_toArray]
    simp [rowVals, List.getElem?_zipWith, hj, hj2]

theorem OwnEach.below {B : Nat} {w w' : World} {rs : List Nat} {sss : List (List ByteArray)} {C : Nat} (h : OwnEach B w rs sss) (hb : Below C w w') (hC : w.heap.size ≤ C) : OwnEach B w' rs sss :=
  ⟨h.1, h.2.1, fun j hj hj2 => ⟨(h.2.2 j hj hj2).1, (h.2.2 j hj hj2).2.below hb (Nat.lt_of_lt_of_le (h.2.2 j hj hj2).2.lt hC)⟩⟩

theorem OwnEach.snoc {B : Nat} {w : World} {rs : List Nat} {sss : List (List ByteArray)} {ss : List ByteArray} {r : Nat} (h : OwnEach B w rs sss) (hB : B ≤ r) (hr : Blk w r (strRow ss) 9) (hn : r ∉ rs) : OwnEach B w (rs ++ [r]) (sss ++ [ss]) := by
  obtain ⟨h1, h2, h3⟩ := h
  refine ⟨by simp [h1], ?_, ?_⟩
  · rw [List.nodup_append]
    refine ⟨h2, by simp, fun a ha b hb => ?_⟩
    simp at hb; subst hb; intro e; subst e; exact hn ha
  · intro j hj hj2
    rcases Nat.lt_or_ge j sss.length with g | g
    · have g2 : j < rs.length := by omega
      rw [List.getElem_append_left g, List.getElem_append_left g2]
      exact h3 j g g2
    · have : j = sss.length := by simp at hj; omega
      subst this
      rw [List.getElem_append_right (by omega), List.getElem_append_right (by omega)]
      simp only [h1, Nat.sub_self, List.getElem_cons_zero]
      exact ⟨hB, hr⟩

theorem rowVals_snoc (rs : List Nat) (sss : List (List ByteArray)) (r : Nat) (ss : List ByteArray) (h : rs.length = sss.length) : rowVals (rs ++ [r]) (sss ++ [ss]) = rowVals rs sss ++ [Value.slice (some ⟨r, 0, none⟩) ss.length ss.length] := by
  unfold rowVals; rw [List.zipWith_append h]; rfl

theorem rowVals_length (rs : List Nat) (sss : List (List ByteArray)) (h : rs.length = sss.length) : (rowVals rs sss).length = sss.length := by
  simp [rowVals, h]

theorem nils_set (l : List Value) (m : Nat) (v : Value) : (l ++ List.replicate (m + 1) nilS).toArray.setIfInBounds l.length v = ((l ++ [v]) ++ List.replicate m nilS).toArray := by
  apply Array.ext'
  rw [Array.toList_setIfInBounds]
  simp only [List.replicate_succ]
  rw [List.set_append_right _ _ (Nat.le_refl _), Nat.sub_self, List.set_cons_zero]
  simp

theorem made_nils (n : Nat) : madeCells #[nilS] n = (List.replicate n nilS).toArray := by
  have := fill_zero (fun v : Value => v) nilS (List.replicate n nilS)
  rw [List.length_replicate] at this
  rw [← this]; simp [fillRow]

theorem make22 (w : World) (n : Nat) (h : n ≤ 2000000) : (Instr.makeSlice 22 (.int .i64 (n : Int)) (.int .i64 (n : Int))).run Try.prog w = .ok (.slice (some ⟨w.heap.size, 0, none⟩) n n) (w.alloc (.cells (madeCells #[nilS] n) 30)) := by
  obtain ⟨i0, hi, hz0, hz1, hz2⟩ := info_parts (P := Try.prog) (e := 30) (z := nilS) (size := 1) (bytes := 24) (by kernel_rfl)
  have := run_make (P := Try.prog) w 22 30 i0 nilS Try.underlying22 hi hz0 .i64 .i64 n n (by omega) (by omega) (by rw [hz2]; omega) (by omega)
  rw [this, hz1]; simp [Value.cells, nilS]
theorem make30 (w : World) (n : Nat) (h : n ≤ 2000000) : (Instr.makeSlice 30 (.int .i64 (n : Int)) (.int .i64 (n : Int))).run Try.prog w = .ok (.slice (some ⟨w.heap.size, 0, none⟩) n n) (w.alloc (.cells (madeCells #[Value.string ByteArray.empty] n) 9)) := by
  obtain ⟨i0, hi, hz0, hz1, hz2⟩ := info_parts (P := Try.prog) (e := 9) (z := .string ByteArray.empty) (size := 1) (bytes := 16) (by kernel_rfl)
  have := run_make (P := Try.prog) w 30 9 i0 (.string ByteArray.empty) Try.underlying30 hi hz0 .i64 .i64 n n (by omega) (by omega) (by rw [hz2]; omega) (by omega)
  rw [this, hz1]; simp [Value.cells]

set_option maxHeartbeats 1000000 in
theorem copyKeys_any (ao : Option Addr) (cap : Nat) (sss : List (List ByteArray)) (hl : sss.length ≤ 2000000) (hl2 : ∀ ss ∈ sss, ss.length ≤ 2000000) (hne : ∀ ss ∈ sss, 0 < ss.length) (w : World) (hs : RowsAt w ao sss) :
    Calls Try.prog 11 #[.slice ao sss.length cap] w fun e w' => RetRows sss w e w' := by
  have HS : Hid (RowsAt w ao sss) := hs
  have HL : Hid (∀ ss ∈ sss, ss.length ≤ 2000000) := hl2
  have HN : Hid (∀ ss ∈ sss, 0 < ss.length) := hne
  clear hs hl2 hne
  have hm1 := make22
  have hm2 := make30
  have hn1 := nil22
  have hn2 := nil30
  cases ao with
  | none =>
    have h0 : sss = [] := by
      cases sss with
      | nil => rfl
      | cons a l => obtain ⟨_, _, _, _, h, _⟩ := HS.out 0 (by simp); cases h
    subst h0
    go_enter Try.func11, Try.ntmps11
    go_wp2
    go_ret
    exact ⟨none, 0, [], rfl, ⟨⟨rfl, List.nodup_nil, fun j hj => by simp at hj⟩, .inl ⟨rfl, rfl⟩⟩, Below.refl _ _⟩
  | some a =>
    go_enter Try.func11, Try.ntmps11
    go_wp2
    go_loopw [4] (fun i wr => ∃ (k : Nat) (rs : List Nat), k ≤ sss.length ∧ i = .int .i64 k ∧ OwnEach w.heap.size wr rs (sss.take k) ∧ Blk wr w.heap.size (rowVals rs (sss.take k) ++ List.replicate (sss.length - k) nilS).toArray 30 ∧ Below w.heap.size w wr) (fun i _ => sss.length - (intOf i).toNat)
    case atStart => exact ⟨0, [], Nat.zero_le _, rfl, ⟨rfl, List.nodup_nil, fun j hj => by simp at hj⟩, by rw [made_nils]; exact Blk.new _ _ _, (Below.refl _ _).alloc (Nat.le_refl _) _⟩
    case round =>
      obtain ⟨k, rs, hk, rfl, hown, hB, hbel⟩ := hrel
      have HB : Hid (Blk wr w.heap.size (rowVals rs (sss.take k) ++ List.replicate (sss.length - k) nilS).toArray 30) := hB
      have HOW : Hid (OwnEach w.heap.size wr rs (sss.take k)) := hown
      clear hB hown
      by_cases hlt : k < sss.length
      · obtain ⟨b, off, c, ccap, hao, hc, hss⟩ := HS.out.below hbel k hlt
        cases hao
        obtain ⟨cb, co, hao1, _⟩ := hss 0 (HN.out _ (List.getElem_mem hlt))
        subst hao1
        have HSS : Hid (StrsAt wr (some ⟨cb, co, none⟩) sss[k]) := hss
        clear hss
        have hlk := HL.out _ (List.getElem_mem hlt)
        obtain ⟨w1, hw1⟩ : ∃ w1, w1 = wr := ⟨_, rfl⟩
        subst hw1
        go_wp2
        go_loopw [7] (fun i wr => ∃ j : Nat, j ≤ sss[k].length ∧ i = .int .i64 j ∧ Blk wr w1.heap.size (fillRow Value.string ByteArray.empty sss[k] j) 9 ∧ Below w1.heap.size w1 wr) (fun i _ => sss[k].length - (intOf i).toNat)
        case atStart => exact ⟨0, Nat.zero_le _, rfl, by rw [fill_zero]; exact Blk.new _ _ _, (Below.refl _ _).alloc (Nat.le_refl _) _⟩
        case round =>
          obtain ⟨j, hj, rfl, hB, hbel2⟩ := hrel
          have HB2 : Hid (Blk wr w1.heap.size (fillRow Value.string ByteArray.empty sss[k] j) 9) := hB
          by_cases hjl : j < sss[k].length
          · obtain ⟨cb', co', hao2, hc1⟩ := HSS.out.below hbel2 j hjl
            cases hao2
            have hc2 : wr.cell? ⟨w1.heap.size, j, none⟩ = some (.string ByteArray.empty) := by rw [hB.cell, fill_get _ _ _ _ hjl]
            have hf := hB.free j
            clear hB
            go_wp2
            go_roundw
            case rel => exact ⟨j + 1, by omega, by go_num, by rw [← fill_step _ _ _ _ hjl]; exact HB2.out.set _ _, hbel2.setCell (Nat.le_refl _) _⟩
            case measure => simp [intOf]; omega
          · have hj2 : j = sss[k].length := by omega
            have hrs := HOW.out.1
            have hb1 := HB.out.below hbel2 HB.out.lt
            have hlen : (rowVals rs (sss.take k)).length = k := by rw [rowVals_length _ _ hrs, List.length_take]; omega
            obtain ⟨m, hm⟩ : ∃ m, sss.length - k = m + 1 := ⟨sss.length - k - 1, by omega⟩
            have hm' : sss.length - (k + 1) = m := by omega
            have hc2 : wr.cell? ⟨w.heap.size, k, none⟩ = some nilS := by
              rw [hb1.cell, List.getElem?_toArray, List.getElem?_append_right (by omega), hlen, Nat.sub_self, hm]; rfl
            have hf := hb1.free k
            have HB1 : Hid (Blk wr w.heap.size (rowVals rs (sss.take k) ++ List.replicate (sss.length - k) nilS).toArray 30) := hb1
            have HM : Hid (sss.length - k = m + 1 ∧ sss.length - (k + 1) = m ∧ (rowVals rs (sss.take k)).length = k ∧ j = sss[k].length) := ⟨hm, hm', hlen, hj2⟩
            have hne : w1.heap.size ≠ w.heap.size := by have := HB.out.lt; omega
            have hle : w.heap.size ≤ w1.heap.size := hbel.size
            clear hB hb1 hm hm' hlen hj2 hrs
            go_wp2
            go_roundw
            case rel =>
              obtain ⟨hm, hm', hlen, hj2⟩ := HM.out
              have hrow := HB2.out
              rw [hj2, fill_full] at hrow
              have hnew : Blk (wr.setCell ⟨w.heap.size, k, none⟩ (.slice (some ⟨w1.heap.size, 0, none⟩) sss[k].length sss[k].length)) w1.heap.size (strRow sss[k]) 9 := hrow.set_ne hne _ _
              have hold : OwnEach w.heap.size (wr.setCell ⟨w.heap.size, k, none⟩ (.slice (some ⟨w1.heap.size, 0, none⟩) sss[k].length sss[k].length)) rs (sss.take k) := by
                have h1 := HOW.out.below hbel2 (Nat.le_refl _)
                refine ⟨h1.1, h1.2.1, fun q hq hq2 => ⟨(h1.2.2 q hq hq2).1, (h1.2.2 q hq hq2).2.set_ne ?_ _ _⟩⟩
                exact (h1.2.2 q hq hq2).2.type_ne HB1.out (by decide)
              have hfresh : w1.heap.size ∉ rs := by
                intro hin
                obtain ⟨q, hq, he⟩ := List.mem_iff_getElem.1 hin
                have := (HOW.out.2.2 q (by rw [← HOW.out.1]; exact hq) hq).2.lt
                rw [he] at this; exact absurd this (Nat.lt_irrefl _)
              refine ⟨k + 1, rs ++ [w1.heap.size], by omega, by go_num, ?_, ?_, (hbel.trans (hbel2.mono hle)).setCell (Nat.le_refl _) _⟩
              · rw [take_snoc _ _ hlt]; exact hold.snoc hle hnew hfresh
              · rw [take_snoc _ _ hlt, rowVals_snoc _ _ _ _ HOW.out.1, hm']
                have h5 := HB1.out.set k (.slice (some ⟨w1.heap.size, 0, none⟩) sss[k].length sss[k].length)
                rw [hm] at h5
                have h6 := nils_set (rowVals rs (sss.take k)) m (.slice (some ⟨w1.heap.size, 0, none⟩) sss[k].length sss[k].length)
                rw [hlen] at h6
                rw [h6] at h5
                exact h5
            case measure => simp [intOf]; omega
      · go_wp2
        go_ret
        have hke : k = sss.length := by omega
        subst hke
        have h1 := HOW.out
        have h2 := HB.out
        rw [List.take_of_length_le (Nat.le_refl _)] at h1 h2
        exact ⟨some ⟨w.heap.size, 0, none⟩, sss.length, rs, rfl, ⟨h1, .inr ⟨_, Nat.le_refl _, rfl, by simpa using h2⟩⟩, hbel⟩
end Go.Proofs.Qxb6619794a
