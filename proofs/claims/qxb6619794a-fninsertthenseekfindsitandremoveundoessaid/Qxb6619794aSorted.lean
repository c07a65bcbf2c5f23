import Derived.Test.Qxb6619794aRead
namespace Go.Proofs.Qxb6619794a
open Go.RowKit

theorem make30z (w : World) (n : Nat) (h : n ≤ 2000000) : (Instr.makeSlice 30 (.int .i64 0) (.int .i64 ((n : Int) + 1))).run Try.prog w = .ok (.slice (some ⟨w.heap.size, 0, none⟩) 0 (n + 1)) (w.alloc (.cells (madeCells #[Value.string ByteArray.empty] (n + 1)) 9)) := by
  obtain ⟨i0, hi, hz0, hz1, hz2⟩ := info_parts (P := Try.prog) (e := 9) (z := .string ByteArray.empty) (size := 1) (bytes := 16) (by kernel_rfl)
  have := run_make (P := Try.prog) w 30 9 i0 (.string ByteArray.empty) Try.underlying30 hi hz0 .i64 .i64 0 ((n : Int) + 1) (by omega) (by omega) (by rw [hz2]; omega) (by omega)
  have e : ((n : Int) + 1).toNat = n + 1 := by omega
  rw [this, hz1, e]; simp [Value.cells]

theorem ownS_made (w : World) (B n : Nat) (hB : B ≤ w.heap.size) (hn : n ≤ 2000000) : OwnS (w.alloc (.cells (madeCells #[Value.string ByteArray.empty] (n + 1)) 9)) B (.slice (some ⟨w.heap.size, 0, none⟩) 0 (n + 1)) [] :=
  ⟨rfl, .inr ⟨w.heap.size, n + 1, _, rfl, hB, heap_alloc_new w _, Nat.zero_le _, by unfold maxLen; omega, by rw [size_madeCells]; omega, rfl⟩⟩

/-- What zzInsertSorted has gathered behind k elements. -/
def gath (xs : List ByteArray) (key : ByteArray) (k : Nat) : List ByteArray :=
  if k ≤ below xs key then xs.take k else xs.take (below xs key) ++ key :: (xs.take k).drop (below xs key)

theorem gath_before {xs : List ByteArray} {key : ByteArray} {k : Nat} (hk : k < xs.length) (h : k < below xs key) : gath xs key (k + 1) = gath xs key k ++ [xs[k]] := by
  unfold gath
  rw [if_pos (by omega), if_pos (by omega), take_snoc _ _ hk]
theorem gath_at {xs : List ByteArray} {key : ByteArray} {k : Nat} (hk : k < xs.length) (h : k = below xs key) : gath xs key (k + 1) = (gath xs key k ++ [key]) ++ [xs[k]] := by
  unfold gath
  rw [if_neg (by omega), if_pos (by omega), ← h, take_snoc _ _ hk, List.drop_append, List.drop_of_length_le (by rw [List.length_take]; omega)]
  have : k - (xs.take k).length = 0 := by rw [List.length_take]; omega
  rw [this]; simp
theorem gath_behind {xs : List ByteArray} {key : ByteArray} {k : Nat} (hk : k < xs.length) (h : below xs key < k) : gath xs key (k + 1) = gath xs key k ++ [xs[k]] := by
  unfold gath
  rw [if_neg (by omega), if_neg (by omega), take_snoc _ _ hk, List.drop_append_of_le_length (by rw [List.length_take]; omega)]
  simp
theorem gath_end {xs : List ByteArray} {key : ByteArray} (h : below xs key < xs.length) : gath xs key xs.length = insAt xs key := by
  unfold gath insAt
  rw [if_neg (by omega), List.take_of_length_le (Nat.le_refl _)]
theorem gath_end2 {xs : List ByteArray} {key : ByteArray} (h : below xs key = xs.length) : gath xs key xs.length ++ [key] = insAt xs key := by
  unfold gath insAt
  rw [if_pos (by omega), h, List.take_of_length_le (Nat.le_refl _), List.drop_of_length_le (Nat.le_refl _)]
theorem gath_length (xs : List ByteArray) (key : ByteArray) (k : Nat) (hk : k ≤ xs.length) : (gath xs key k).length ≤ k + 1 := by
  unfold gath
  split
  · rw [List.length_take]; omega
  · simp; omega

theorem new_cell (w : World) (n : Nat) (v : Value) : ((w.drewN n).alloc (.cells #[v] 9)).cell? ⟨w.heap.size, 0, none⟩ = some v := ((Blk.new (w.drewN n) _ _).cell 0).trans rfl

set_option maxHeartbeats 4000000 in
set_option maxRecDepth 100000 in
theorem insertSorted_any (ao : Option Addr) (cap : Nat) (xs : List ByteArray) (key : ByteArray) (hl : xs.length ≤ 1500000) (hb : ∀ s ∈ xs, s.size ≤ 2000000) (hks : key.size ≤ 2000000) (hA : Asc xs) (hno : hasB xs key = false) (w : World) (hs : StrsAt w ao xs) :
    Calls Try.prog 32 #[.slice ao xs.length cap, .string key] w fun e w' => RetStrs (insAt xs key) w e w' := by
  have HS : Hid (StrsAt w ao xs) := hs
  have HB : Hid (∀ s ∈ xs, s.size ≤ 2000000) := hb
  have HLT : Hid (∀ t (h : t < xs.length), t < below xs key → ltB key xs[t] = false) := fun t h ht => ltB_asymm ((below_iff hA h).2 ht)
  have HGT : Hid (∀ t (h : t < xs.length), below xs key ≤ t → ltB key xs[t] = true) := fun t h ht => by
    cases hq : ltB key xs[t]
    · cases hq2 : ltB xs[t] key
      · have e := ltB_total hq hq2
        have : hasB xs key = true := hasB_iff.2 (by rw [e]; exact List.getElem_mem h)
        rw [hno] at this; cases this
      · have := (below_iff hA h).1 hq2; omega
    · rfl
  have hbl := below_le xs key
  have hmk := make30z
  have hl2 : xs.length ≤ 2000000 := by omega
  clear hs hb hA hno
  go_enter Try.func32, Try.ntmps32
  go_wp2
  go_loopw [5, 6, 7] (fun v p i wr => ∃ (k : Nat) (acc : List ByteArray), k ≤ xs.length ∧ i = .int .i64 k ∧ p = .bool (decide (below xs key < k)) ∧ OwnS wr w.heap.size v acc ∧ acc = gath xs key k ∧ Below w.heap.size w wr) (fun _ _ i _ => xs.length - (intOf i).toNat)
  case atStart => exact ⟨0, [], Nat.zero_le _, rfl, rfl, ownS_made w _ _ (Nat.le_refl _) (by omega), by unfold gath; simp, (Below.refl _ _).alloc (Nat.le_refl _) _⟩
  case round =>
    obtain ⟨k, acc, hk, rfl, rfl, hown, hacc, hbel⟩ := hrel
    have hal : acc.length ≤ k + 1 := by rw [hacc]; exact gath_length _ _ _ hk
    have HACC : Hid (acc = gath xs key k) := hacc
    have hsz := hbel.size
    clear hacc
    by_cases hlt : k < xs.length
    · obtain ⟨b, off, hao, hc⟩ := HS.out.below hbel k hlt
      subst hao
      have hx1 : (k : Int) < (xs.length : Int) := by omega
      have hz1 : xs[k].size ≤ 2000000 := HB.out _ (List.getElem_mem hlt)
      rcases Nat.lt_trichotomy k (below xs key) with g | g | g
      · have hp : decide (below xs key < k) = false := by rw [decide_eq_false_iff_not]; omega
        have hq := HLT.out k hlt g
        have HST : Hid (gath xs key (k + 1) = gath xs key k ++ [xs[k]]) := gath_before hlt g
        have HP : Hid (decide (below xs key < k + 1) = false) := by unfold Hid; rw [decide_eq_false_iff_not]; omega
        rw [hp]
        clear hp
        go_wp2_with (first | (go_at_call 35; refine (less_any _ _ hks hz1 _).mono ?_; rintro e w' ⟨rfl, nq, rfl⟩; rw [hq]) | (at_builtin; refine wpList_append_str rfl _ _ rfl w.heap.size _ acc rfl (hown.alloc _) wr.heap.size xs[k] rfl ?_ ?_ ?_ ?_))
        · exact new_cell _ _ _
        · omega
        · simp; omega
        · intro v' w2 hown' hgrow
          have HOW2 : Hid (OwnS w2 w.heap.size v' (acc ++ [xs[k]])) := hown'
          have hrow := hown.row
          have HBB : Hid (Below w.heap.size w w2) := Below.grown (w := (wr.drewN _).alloc _) ((hbel.trans (Still.below ⟨_, rfl⟩ _)).alloc (by simp; omega) _) hgrow (by simp; omega) hrow
          clear hown' hgrow hown hrow
          go_wp2
          go_roundw
          case rel => exact ⟨k + 1, acc ++ [xs[k]], by omega, by go_num, by rw [HP.out], HOW2.out, by rw [HST.out, HACC.out], HBB.out⟩
          case measure => simp [intOf]; omega
      · have hp : decide (below xs key < k) = false := by rw [decide_eq_false_iff_not]; omega
        have hq := HGT.out k hlt (by omega)
        have HST : Hid (gath xs key (k + 1) = (gath xs key k ++ [key]) ++ [xs[k]]) := gath_at hlt g
        have HP : Hid (decide (below xs key < k + 1) = true) := by unfold Hid; rw [decide_eq_true_iff]; omega
        rw [hp]
        clear hp g
        go_wp2_with (first | (go_at_call 35; refine (less_any _ _ hks hz1 _).mono ?_; rintro e w' ⟨rfl, nq, rfl⟩; rw [hq]) | (at_builtin; refine wpList_append_str rfl _ _ rfl w.heap.size _ acc rfl (hown.alloc _) wr.heap.size key rfl ?_ ?_ ?_ ?_))
        · exact new_cell _ _ _
        · omega
        · simp; omega
        · intro v' w2 hown' hgrow
          have HBB : Below w.heap.size w w2 := Below.grown (w := (wr.drewN _).alloc _) ((hbel.trans (Still.below ⟨_, rfl⟩ _)).alloc (by simp; omega) _) hgrow (by simp; omega) hown.row
          obtain ⟨b1, off1, hao1, hc1⟩ := HS.out.below HBB k hlt
          cases hao1
          have hsz2 := HBB.size
          clear hgrow hown hc
          go_wp2_with (at_builtin; refine wpList_append_str rfl _ _ rfl w.heap.size _ (acc ++ [key]) rfl (hown'.alloc _) w2.heap.size xs[k] rfl ?_ ?_ ?_ ?_)
          · simp
          · simp; omega
          · simp; omega
          · intro v3 w3 hown3 hgrow
            have HOW3 : Hid (OwnS w3 w.heap.size v3 (acc ++ [key] ++ [xs[k]])) := by unfold Hid; simpa using hown3
            have hrow := hown'.row
            have HB3 : Hid (Below w.heap.size w w3) := Below.grown (w := w2.alloc _) (HBB.alloc (by omega) _) hgrow (by simp; omega) hrow
            clear hown' hgrow hown3 hrow
            go_wp2
            go_roundw
            case rel => exact ⟨k + 1, acc ++ [key] ++ [xs[k]], by omega, by go_num, by rw [HP.out], HOW3.out, by rw [HST.out, HACC.out], HB3.out⟩
            case measure => simp [intOf]; omega
      · have hp : decide (below xs key < k) = true := by rw [decide_eq_true_iff]; omega
        have HST : Hid (gath xs key (k + 1) = gath xs key k ++ [xs[k]]) := gath_behind hlt g
        have HP : Hid (decide (below xs key < k + 1) = true) := by unfold Hid; rw [decide_eq_true_iff]; omega
        rw [hp]
        clear hp
        go_wp2_with (at_builtin; refine wpList_append_str rfl _ _ rfl w.heap.size _ acc rfl (hown.alloc _) wr.heap.size xs[k] rfl ?_ ?_ ?_ ?_)
        · simp
        · omega
        · simp; omega
        · intro v' w2 hown' hgrow
          have HOW2 : Hid (OwnS w2 w.heap.size v' (acc ++ [xs[k]])) := hown'
          have hrow := hown.row
          have HBB : Hid (Below w.heap.size w w2) := Below.grown (w := wr.alloc _) (hbel.alloc (by omega) _) hgrow (by simp; omega) hrow
          clear hown' hgrow hown hrow
          go_wp2
          go_roundw
          case rel => exact ⟨k + 1, acc ++ [xs[k]], by omega, by go_num, by rw [HP.out], HOW2.out, by rw [HST.out, HACC.out], HBB.out⟩
          case measure => simp [intOf]; omega
    · have hke : k = xs.length := by omega
      subst hke
      rcases Nat.lt_or_eq_of_le hbl with g | g
      · have hp : decide (below xs key < xs.length) = true := by rw [decide_eq_true_iff]; omega
        have HE : Hid (acc = insAt xs key) := by unfold Hid; rw [HACC.out]; exact gath_end g
        rw [hp]
        clear hp
        go_wp2
        go_ret
        have hown2 := hown
        rw [HE.out] at hown2
        obtain ⟨ao', cap', hv, hst⟩ := hown2.strs
        exact ⟨ao', cap', by rw [← hv]; rfl, hst, hbel⟩
      · have hp : decide (below xs key < xs.length) = false := by rw [decide_eq_false_iff_not]; omega
        have HE : Hid (acc ++ [key] = insAt xs key) := by unfold Hid; rw [HACC.out]; exact gath_end2 g
        rw [hp]
        clear hp g
        go_wp2_with (at_builtin; refine wpList_append_str rfl _ _ rfl w.heap.size _ acc rfl (hown.alloc _) wr.heap.size key rfl ?_ ?_ ?_ ?_)
        · simp
        · omega
        · simp; omega
        · intro v' w2 hown' hgrow
          have HBB : Hid (Below w.heap.size w w2) := Below.grown (w := wr.alloc _) (hbel.alloc (by omega) _) hgrow (by simp; omega) hown.row
          rw [HE.out] at hown'
          have HOW2 : Hid (OwnS w2 w.heap.size v' (insAt xs key)) := hown'
          clear hown' hgrow hown
          go_wp2
          go_ret
          obtain ⟨ao', cap', hv, hst⟩ := HOW2.out.strs
          exact ⟨ao', cap', by rw [← hv]; rfl, hst, HBB.out⟩
end Go.Proofs.Qxb6619794a
