import Derived.Test.Qxb6619794aSorted
namespace Go.Proofs.Qxb6619794a
open Go.RowKit

def RetRead (sss : List (List ByteArray)) (es : List Int) (w : World) (e : Ending) (w' : World) : Prop :=
  ∃ ao cap eo ec, e = .returned (.tuple #[.slice ao sss.length cap, .slice eo es.length ec, .bool true]) ∧ RowsAt w' ao sss ∧ NumsAt w' eo es ∧ Below w.heap.size w w'

theorem keys_at {B kb : Nat} {cs : List Ch} {ep : Int} {sh : Bool} {k : Nat} {w : World} {sss : List (List ByteArray)} (hk : KAt B w kb cs ep sh) (hss : cs.map Ch.ss = sss) (h : k < sss.length) :
    ∃ r cp, (∀ w', Below w.heap.size w w' → Calls Try.prog 36 #[.pointer (some ⟨kb, 0, none⟩), .int .i64 k] w' fun e w2 => e = .returned (.slice (some ⟨r, 0, none⟩) sss[k].length cp) ∧ w2 = w') ∧ StrsAt w (some ⟨r, 0, none⟩) sss[k] := by
  subst hss
  have h2 : k < cs.length := by simpa using h
  refine ⟨cs[k].r, cs[k].cap, fun w' hb => ?_, ?_⟩
  · refine (zzchunkKeys B kb cs ep sh k w' (hk.below hb) h2).mono ?_
    rintro e w2 ⟨rfl, rfl⟩
    exact ⟨by simp, rfl⟩
  · have := (hk.2.1 cs[k] (List.getElem_mem h2)).2.2.2.strs
    simpa using this
theorem epoch_at {B kb : Nat} {cs : List Ch} {ep : Int} {sh : Bool} {k : Nat} {w : World} {es : List Int} (hk : KAt B w kb cs ep sh) (hes : cs.map Ch.e = es) (h : k < es.length) :
    ∀ w', Below w.heap.size w w' → Calls Try.prog 39 #[.pointer (some ⟨kb, 0, none⟩), .int .i64 k] w' fun e w2 => e = .returned (.int .u64 es[k]) ∧ w2 = w' := by
  subst hes
  have h2 : k < cs.length := by simpa using h
  intro w' hb
  refine (zzchunkEpoch B kb cs ep sh k w' (hk.below hb) h2).mono ?_
  rintro e w2 ⟨rfl, rfl⟩
  exact ⟨by simp, rfl⟩

set_option maxHeartbeats 4000000 in
theorem readBack_any (B kb : Nat) (cs : List Ch) (ep : Int) (sh : Bool) (lim : Nat) (sss : List (List ByteArray)) (es : List Int) (hss : cs.map Ch.ss = sss) (hes : cs.map Ch.e = es) (hl : sss.length ≤ 2000000) (hl2 : ∀ ss ∈ sss, ss.length ≤ 2000000) (hlim : sss.length ≤ lim) (w : World) (hk : KAt B w kb cs ep sh) :
    Calls Try.prog 18 #[.pointer (some ⟨kb, 0, none⟩), .int .i64 lim] w fun e w' => RetRead sss es w e w' := by
  have hel : es.length = sss.length := by rw [← hes, ← hss]; simp
  have HNUM : Hid (Calls Try.prog 38 #[.pointer (some ⟨kb, 0, none⟩)] w fun e w' => e = .returned (.int .i64 sss.length) ∧ w' = w) := by
    have := zznum B kb cs ep sh w hk
    have e : cs.length = sss.length := by rw [← hss]; simp
    rw [e] at this; exact this
  have HKEYS : Hid (∀ k (h : k < sss.length), ∃ r cp, (∀ w', Below w.heap.size w w' → Calls Try.prog 36 #[.pointer (some ⟨kb, 0, none⟩), .int .i64 k] w' fun e w2 => e = .returned (.slice (some ⟨r, 0, none⟩) sss[k].length cp) ∧ w2 = w') ∧ StrsAt w (some ⟨r, 0, none⟩) sss[k]) := fun k h => keys_at hk hss h
  have HEP : Hid (∀ k (h : k < es.length), ∀ w', Below w.heap.size w w' → Calls Try.prog 39 #[.pointer (some ⟨kb, 0, none⟩), .int .i64 k] w' fun e w2 => e = .returned (.int .u64 es[k]) ∧ w2 = w') := fun k h => epoch_at hk hes h
  have HL : Hid (∀ ss ∈ sss, ss.length ≤ 2000000) := hl2
  clear hl2 hk hss hes
  have hm1 := make22
  have hm2 := make30
  have hm3 := make23
  have hx0 : decide (lim < sss.length) = false := by rw [decide_eq_false_iff_not]; omega
  have hx1 : decide ((sss.length : Int) < 0) = false := by rw [decide_eq_false_iff_not]; omega
  have HEL : Hid (es.length = sss.length) := hel
  clear hel
  go_enter Try.func18, Try.ntmps18
  go_wp2_with (go_at_call 38; refine HNUM.out.mono ?_; rintro e w' ⟨rfl, hww⟩; subst w')
  go_loopw [10] (fun i wr => ∃ (k : Nat) (rs : List Nat), k ≤ sss.length ∧ i = .int .i64 k ∧ OwnEach w.heap.size wr rs (sss.take k) ∧ Blk wr w.heap.size (rowVals rs (sss.take k) ++ List.replicate (sss.length - k) nilS).toArray 30 ∧ Blk wr (w.heap.size + 1) (fillRow (Value.int .u64) 0 es k) 24 ∧ Below w.heap.size w wr) (fun i _ => sss.length - (intOf i).toNat)
  case atStart =>
    refine ⟨0, [], Nat.zero_le _, rfl, ⟨rfl, List.nodup_nil, fun j hj => by simp at hj⟩, ?_, ?_, ((Below.refl _ _).alloc (Nat.le_refl _) _).alloc (by simp) _⟩
    · rw [made_nils]; exact (Blk.new w _ _).alloc _
    · rw [fill_zero, HEL.out]
      have := Blk.new (w.alloc (.cells (madeCells #[nilS] sss.length) 30)) (madeCells #[Value.int .u64 0] sss.length) 24
      simpa using this
  case round =>
    obtain ⟨k, rs, hk, rfl, hown, hB, hE, hbel⟩ := hrel
    have HB : Hid (Blk wr w.heap.size (rowVals rs (sss.take k) ++ List.replicate (sss.length - k) nilS).toArray 30) := hB
    have HE : Hid (Blk wr (w.heap.size + 1) (fillRow (Value.int .u64) 0 es k) 24) := hE
    have HOW : Hid (OwnEach w.heap.size wr rs (sss.take k)) := hown
    clear hB hown hE
    by_cases hlt : k < sss.length
    · obtain ⟨r, cp, hcalls, hss0⟩ := HKEYS.out k hlt
      have hss := hss0.below hbel
      have HC36 := hcalls wr hbel
      have HC : Hid (Calls Try.prog 36 #[.pointer (some ⟨kb, 0, none⟩), .int .i64 k] wr fun e w2 => e = .returned (.slice (some ⟨r, 0, none⟩) sss[k].length cp) ∧ w2 = wr) := HC36
      have hle2 : k < es.length := by rw [HEL.out]; exact hlt
      have HC2 : Hid (∀ w', Below w.heap.size w w' → Calls Try.prog 39 #[.pointer (some ⟨kb, 0, none⟩), .int .i64 k] w' fun e w2 => e = .returned (.int .u64 es[k]) ∧ w2 = w') := HEP.out k hle2
      have HSS : Hid (StrsAt wr (some ⟨r, 0, none⟩) sss[k]) := hss
      clear hss hcalls HC36 hss0
      have hlk := HL.out _ (List.getElem_mem hlt)
      obtain ⟨w1, hw1⟩ : ∃ w1, w1 = wr := ⟨_, rfl⟩
      subst hw1
      go_wp2_with (go_at_call 36; refine HC.out.mono ?_; rintro e w' ⟨rfl, hww⟩; subst w')
      go_loopw [13] (fun i wr => ∃ j : Nat, j ≤ sss[k].length ∧ i = .int .i64 j ∧ Blk wr w1.heap.size (fillRow Value.string ByteArray.empty sss[k] j) 9 ∧ Below w1.heap.size w1 wr) (fun i _ => sss[k].length - (intOf i).toNat)
      case atStart => exact ⟨0, Nat.zero_le _, rfl, by rw [fill_zero]; exact Blk.new _ _ _, (Below.refl _ _).alloc (Nat.le_refl _) _⟩
      case round =>
        obtain ⟨j, hj, rfl, hB, hbel2⟩ := hrel
        have HB2 : Hid (Blk wr w1.heap.size (fillRow Value.string ByteArray.empty sss[k] j) 9) := hB
        by_cases hjl : j < sss[k].length
        · obtain ⟨cb', co', hao2, hc1⟩ := HSS.out.below hbel2 j hjl
          cases hao2
          have hc2 : wr.cell? ⟨w1.heap.size, j, none⟩ = some (.string ByteArray.empty) := by rw [hB.cell, fill_get _ _ _ _ hjl]
          have hf := hB.free j
          have hx1 : (j : Int) < (sss[k].length : Int) := by omega
          rw [Nat.zero_add] at hc1
          clear hB
          go_wp2
          go_roundw
          case rel => exact ⟨j + 1, by omega, by go_num, by rw [← fill_step _ _ _ _ hjl]; exact HB2.out.set _ _, hbel2.setCell (Nat.le_refl _) _⟩
          case measure => simp [intOf]; omega
        · have hj2 : j = sss[k].length := by omega
          have hrs := HOW.out.1
          have hb1 := HB.out.below hbel2 HB.out.lt
          have he1 := HE.out.below hbel2 HE.out.lt
          have hlen : (rowVals rs (sss.take k)).length = k := by rw [rowVals_length _ _ hrs, List.length_take]; omega
          obtain ⟨m, hm⟩ : ∃ m, sss.length - k = m + 1 := ⟨sss.length - k - 1, by omega⟩
          have hm' : sss.length - (k + 1) = m := by omega
          have hc2 : wr.cell? ⟨w.heap.size, k, none⟩ = some nilS := by
            rw [hb1.cell, List.getElem?_toArray, List.getElem?_append_right (by omega), hlen, Nat.sub_self, hm]; rfl
          have hc3 : wr.cell? ⟨w.heap.size + 1, k, none⟩ = some (.int .u64 0) := by rw [he1.cell, fill_get _ _ _ _ hle2]
          have hf := hb1.free k
          have hf2 := he1.free k
          have HB1 : Hid (Blk wr w.heap.size (rowVals rs (sss.take k) ++ List.replicate (sss.length - k) nilS).toArray 30) := hb1
          have HE1 : Hid (Blk wr (w.heap.size + 1) (fillRow (Value.int .u64) 0 es k) 24) := he1
          have HM : Hid (sss.length - k = m + 1 ∧ sss.length - (k + 1) = m ∧ (rowVals rs (sss.take k)).length = k ∧ j = sss[k].length) := ⟨hm, hm', hlen, hj2⟩
          have hne : w1.heap.size ≠ w.heap.size := by have := HB.out.lt; omega
          have hne2 : w1.heap.size ≠ w.heap.size + 1 := by have := HE.out.lt; omega
          have hle : w.heap.size ≤ w1.heap.size := hbel.size
          have hx3 : (k : Int) < (es.length : Int) := by omega
          have hbel3 : Below w.heap.size w wr := hbel.trans (hbel2.mono hle)
          clear hB hb1 hm hm' hlen hj2 hrs he1
          go_wp2_with (go_at_call 39; refine (HC2.out _ (hbel3.setCell (Nat.le_refl _) _)).mono ?_; rintro e w' ⟨rfl, hww⟩; subst w')
          go_roundw
          case rel =>
            obtain ⟨hm, hm', hlen, hj2⟩ := HM.out
            have hrow := HB2.out
            rw [hj2, fill_full] at hrow
            have hnew : Blk ((wr.setCell ⟨w.heap.size, k, none⟩ (.slice (some ⟨w1.heap.size, 0, none⟩) sss[k].length sss[k].length)).setCell ⟨w.heap.size + 1, k, none⟩ (.int .u64 es[k])) w1.heap.size (strRow sss[k]) 9 := (hrow.set_ne hne _ _).set_ne hne2 _ _
            have hold : OwnEach w.heap.size ((wr.setCell ⟨w.heap.size, k, none⟩ (.slice (some ⟨w1.heap.size, 0, none⟩) sss[k].length sss[k].length)).setCell ⟨w.heap.size + 1, k, none⟩ (.int .u64 es[k])) rs (sss.take k) := by
              have h1 := HOW.out.below hbel2 (Nat.le_refl _)
              refine ⟨h1.1, h1.2.1, fun q hq hq2 => ⟨(h1.2.2 q hq hq2).1, ((h1.2.2 q hq hq2).2.set_ne ?_ _ _).set_ne ?_ _ _⟩⟩
              · exact (h1.2.2 q hq hq2).2.type_ne HB1.out (by decide)
              · exact (h1.2.2 q hq hq2).2.type_ne HE1.out (by decide)
            have hfresh : w1.heap.size ∉ rs := by
              intro hin
              obtain ⟨q, hq, he⟩ := List.mem_iff_getElem.1 hin
              have := (HOW.out.2.2 q (by rw [← HOW.out.1]; exact hq) hq).2.lt
              rw [he] at this; exact absurd this (Nat.lt_irrefl _)
            refine ⟨k + 1, rs ++ [w1.heap.size], by omega, by go_num, ?_, ?_, ?_, (hbel3.setCell (Nat.le_refl _) _).setCell (Nat.le_succ _) _⟩
            · rw [take_snoc _ _ hlt]; exact hold.snoc hle hnew hfresh
            · rw [take_snoc _ _ hlt, rowVals_snoc _ _ _ _ HOW.out.1, hm']
              have h5 := HB1.out.set k (.slice (some ⟨w1.heap.size, 0, none⟩) sss[k].length sss[k].length)
              rw [hm] at h5
              have h6 := nils_set (rowVals rs (sss.take k)) m (.slice (some ⟨w1.heap.size, 0, none⟩) sss[k].length sss[k].length)
              rw [hlen] at h6
              rw [h6] at h5
              exact h5.set_ne (by omega) _ _
            · rw [← fill_step _ _ _ _ hle2]
              exact (HE1.out.set_ne (by omega) _ _).set _ _
          case measure => simp [intOf]; omega
    · go_wp2
      go_ret3
      have hke : k = sss.length := by omega
      subst hke
      have h1 := HOW.out
      have h2 := HB.out
      have h3 := HE.out
      rw [List.take_of_length_le (Nat.le_refl _)] at h1 h2
      rw [← HEL.out, fill_full] at h3
      refine ⟨some ⟨w.heap.size, 0, none⟩, sss.length, some ⟨w.heap.size + 1, 0, none⟩, sss.length, by rw [HEL.out]; rfl, OwnRows.rowsAt (B := w.heap.size) (rs := rs) ⟨h1, .inr ⟨_, Nat.le_refl _, rfl, by simpa using h2⟩⟩, nums_of_blk h3, hbel⟩
end Go.Proofs.Qxb6619794a
