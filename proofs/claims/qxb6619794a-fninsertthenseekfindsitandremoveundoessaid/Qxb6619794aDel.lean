import Derived.Test.Qxb6619794aLawB
namespace Go.Proofs.Qxb6619794a
open Go.RowKit

def RetDel (r n cap : Nat) (t : TypeId) (xs : List Value) (w : World) (e : Ending) (w' : World) : Prop :=
  e = .returned (.slice (some ⟨r, 0, none⟩) n cap) ∧ GRow w' r cap t xs ∧ w.grownBy w' (some r)

theorem splice_length (L : List Value) (o : Nat) (cs : List Value) (h : o + cs.length ≤ L.length) : (splice L o cs).length = L.length := by
  simp [splice]; omega

theorem del_row {w : World} {r cap n n1 i : Nat} {t : TypeId} {L xs news : List Value} {z : Value} (hb : Blk w r (splice (splice L i news) n1 (List.replicate 1 z)).toArray t) (hL : L.length = cap) (ht : L.take n = xs) (hnews : news = xs.drop (i + 1)) (hx : xs.length = n) (hn : n = n1 + 1) (hin : i < n) (hm : cap ≤ maxLen) (hnc : n ≤ cap) :
    GRow w r cap t (xs.take i ++ xs.drop (i + 1)) := by
  have hl : news.length = n - (i + 1) := by rw [hnews, List.length_drop, hx]
  have h1 := splice_length L i news (by omega)
  have h2 := splice_length (splice L i news) n1 (List.replicate 1 z) (by rw [h1]; simp; omega)
  have hlx : (xs.take i ++ xs.drop (i + 1)).length = n1 := by rw [List.length_append, List.length_take, List.length_drop, hx]; omega
  refine ⟨_, hb, by rw [h2, h1]; exact hL, by rw [hlx]; omega, hm, ?_⟩
  rw [hlx]
  have e1 : (splice (splice L i news) n1 (List.replicate 1 z)).take n1 = (splice L i news).take n1 := by
    generalize splice L i news = M at h1 ⊢
    unfold splice
    rw [List.take_append_of_le_length (by rw [List.length_take, h1]; omega), List.take_take, Nat.min_self]
  rw [e1]
  have e2 : L.take i = xs.take i := by rw [← ht, List.take_take]; congr 1; omega
  unfold splice
  rw [e2, ← List.append_assoc, hnews, List.take_append_of_le_length (by rw [hlx]; exact Nat.le_refl _), List.take_of_length_le (by rw [hlx]; exact Nat.le_refl _)]

set_option maxHeartbeats 4000000 in
set_option maxRecDepth 100000 in
theorem del44 (r cap n i i1 n1 : Nat) (xs : List Value) (hn : xs.length = n) (hi1 : i1 = i + 1) (hn1 : n = n1 + 1) (hin : i < n) (h1c : ∀ u ∈ xs, u.oneCell' = true) (w : World) (hg : GRow w r cap 9 xs) :
    Calls Try.prog 44 #[.slice (some ⟨r, 0, none⟩) n cap, .int .i64 i, .int .i64 i1] w fun e w' => RetDel r n1 cap 9 (xs.take i ++ xs.drop (i + 1)) w e w' := by
  obtain ⟨i0, hi, hz0, hz1, hz2⟩ := info_parts (P := Try.prog) (e := 9) (z := Value.string ByteArray.empty) (size := 1) (bytes := 16) (by kernel_rfl)
  obtain ⟨L, hB, hL, hle, hmx, htk⟩ := hg
  unfold maxLen at hmx
  obtain ⟨news, hnews⟩ : ∃ news, news = xs.drop i1 := ⟨_, rfl⟩
  have hlen : news.length = n - i1 := by rw [hnews]; simp [hn]
  obtain ⟨A, hA, hsrc⟩ : ∃ A : Addr, (if cap = i1 then some (⟨r, 0, none⟩ : Addr) else some ⟨r, i1, none⟩) = some A ∧ Hid (∀ t u, news[t]? = some u → w.drew.cell? (A.add t) = some u) := by
    by_cases h : cap = i1
    · refine ⟨⟨r, 0, none⟩, by simp [h], fun t u hu => ?_⟩
      have h0 : news.length = 0 := by rw [hlen]; omega
      rw [List.length_eq_zero_iff.1 h0] at hu
      simp at hu
    · refine ⟨⟨r, i1, none⟩, by simp [h], fun t u hu => ?_⟩
      exact src_cells (w := w.drew) hB htk hnews.symm hu
  have s1 : Hid (news.length = (n - i1) * 1) := by unfold Hid; rw [Nat.mul_one]; exact hlen
  have s2 : Hid (∀ u ∈ news, u.oneCell' = true) := fun u hu => h1c u (by rw [hnews] at hu; exact List.mem_of_mem_drop hu)
  have s3 : Hid (∀ t, t < news.length → (w.drew.cell? ⟨r, 0 + i * 1 + t, none⟩).isSome = true ∧ w.drew.frozen? ⟨r, 0 + i * 1 + t, none⟩ = false) := by
    intro t ht
    rw [hlen] at ht
    refine ⟨?_, hB.free _⟩
    show (w.cell? _).isSome = true
    rw [hB.cell]; simp; omega
  have hB' : Blk w.drew r L.toArray 9 := hB
  obtain ⟨q1, q2⟩ := setCells_blk r 9 news (0 + i * 1) w.drew L hB' (by omega)
  obtain ⟨W1, hW1⟩ : ∃ W1, W1 = w.drew.setCells r (0 + i * 1) news := ⟨_, rfl⟩
  rw [← hW1] at q1 q2
  have HW : Hid (W1 = w.drew.setCells r (0 + i * 1) news) := hW1
  have e0 : 0 + i * 1 = i := by omega
  rw [e0] at q1
  have hspl : (splice L i news).length = cap := by rw [splice_length _ _ _ (by omega)]; exact hL
  have HQ1 : Hid (Blk W1 r (splice L i news).toArray 9) := q1
  have HQ2 : Hid (w.drew.grownBy W1 (some r)) := q2
  have HP : Hid (L.length = cap ∧ L.take n = xs ∧ news = xs.drop (i + 1) ∧ xs.length = n) := ⟨hL, by rw [← hn]; exact htk, by rw [hnews, hi1], hn⟩
  have HS : Hid ((splice L i news).length = cap) := hspl
  have hne : ((i : Int) == (i1 : Int)) = false := by rw [beq_eq_false_iff_ne]; omega
  have hic : i ≤ cap := by omega
  have hii : i ≤ i1 := by omega
  have hi1n : i1 ≤ n := by omega
  have hi1c : i1 ≤ cap := by omega
  have hnc : n ≤ cap := by omega
  have hx1 : i + (n - i1) = n1 := by omega
  have hx2 : n - n1 = 1 := by omega
  have hx3 : n1 ≤ n := by omega
  have hx4 : n1 ≠ cap := by omega
  have H1 : Hid (i1 = i + 1) := hi1
  have H2 : Hid (n = n1 + 1) := hn1
  clear hB hB' htk hnews hlen hW1 q1 q2 hspl hL h1c hn hle hi1 hn1
  go_enter Try.func44, Try.ntmps44
  go_wp2_with fail
  go_region_law (refine step_append_room rfl (.tmp 22) (.tmp 25) 30 rfl 9 i0 1 Try.underlying30 hi hz1 r 0 i cap (by simp [Act.eval, Act.put]) A (n - i1) (cap - i1) news (by simp [Act.eval, Act.put]) s1.out hsrc.out s2.out (by omega) s3.out ?_; rw [← HW.out, hx1])
  go_wp2_with (refine wpList_clear_row rfl _ 30 9 (Value.string ByteArray.empty) rfl Try.underlying30 zero9 rfl rfl r n1 1 (cap - n1) (by simp [Act.eval]) (by omega) (splice L i news) HQ1.out (by rw [HS.out]; omega) ?_)
  intro W2 hW2 hgr
  have HB2 : Hid (Blk W2 r (splice (splice L i news) n1 (List.replicate 1 (Value.string ByteArray.empty))).toArray 9) := hW2
  have HG2 : Hid (W1.grownBy W2 (some r)) := hgr
  clear hW2 hgr
  go_wp2
  go_ret
  obtain ⟨p1, p2, p3, p4⟩ := HP.out
  have hn' := H2.out
  have hi' := H1.out
  refine ⟨rfl, del_row HB2.out p1 p2 p3 p4 hn' hin (by unfold maxLen; omega) hnc, grownBy_trans HQ2.out HG2.out⟩

set_option maxHeartbeats 4000000 in
set_option maxRecDepth 100000 in
theorem del46 (r cap n i i1 n1 : Nat) (xs : List Value) (hn : xs.length = n) (hi1 : i1 = i + 1) (hn1 : n = n1 + 1) (hin : i < n) (h1c : ∀ u ∈ xs, u.oneCell' = true) (w : World) (hg : GRow w r cap 57 xs) :
    Calls Try.prog 46 #[.slice (some ⟨r, 0, none⟩) n cap, .int .i64 i, .int .i64 i1] w fun e w' => RetDel r n1 cap 57 (xs.take i ++ xs.drop (i + 1)) w e w' := by
  obtain ⟨i0, hi, hz0, hz1, hz2⟩ := info_parts (P := Try.prog) (e := 57) (z := Value.pointer none) (size := 1) (bytes := 8) (by kernel_rfl)
  obtain ⟨L, hB, hL, hle, hmx, htk⟩ := hg
  unfold maxLen at hmx
  obtain ⟨news, hnews⟩ : ∃ news, news = xs.drop i1 := ⟨_, rfl⟩
  have hlen : news.length = n - i1 := by rw [hnews]; simp [hn]
  obtain ⟨A, hA, hsrc⟩ : ∃ A : Addr, (if cap = i1 then some (⟨r, 0, none⟩ : Addr) else some ⟨r, i1, none⟩) = some A ∧ Hid (∀ t u, news[t]? = some u → w.drew.cell? (A.add t) = some u) := by
    by_cases h : cap = i1
    · refine ⟨⟨r, 0, none⟩, by simp [h], fun t u hu => ?_⟩
      have h0 : news.length = 0 := by rw [hlen]; omega
      rw [List.length_eq_zero_iff.1 h0] at hu
      simp at hu
    · refine ⟨⟨r, i1, none⟩, by simp [h], fun t u hu => ?_⟩
      exact src_cells (w := w.drew) hB htk hnews.symm hu
  have s1 : Hid (news.length = (n - i1) * 1) := by unfold Hid; rw [Nat.mul_one]; exact hlen
  have s2 : Hid (∀ u ∈ news, u.oneCell' = true) := fun u hu => h1c u (by rw [hnews] at hu; exact List.mem_of_mem_drop hu)
  have s3 : Hid (∀ t, t < news.length → (w.drew.cell? ⟨r, 0 + i * 1 + t, none⟩).isSome = true ∧ w.drew.frozen? ⟨r, 0 + i * 1 + t, none⟩ = false) := by
    intro t ht
    rw [hlen] at ht
    refine ⟨?_, hB.free _⟩
    show (w.cell? _).isSome = true
    rw [hB.cell]; simp; omega
  have hB' : Blk w.drew r L.toArray 57 := hB
  obtain ⟨q1, q2⟩ := setCells_blk r 57 news (0 + i * 1) w.drew L hB' (by omega)
  obtain ⟨W1, hW1⟩ : ∃ W1, W1 = w.drew.setCells r (0 + i * 1) news := ⟨_, rfl⟩
  rw [← hW1] at q1 q2
  have HW : Hid (W1 = w.drew.setCells r (0 + i * 1) news) := hW1
  have e0 : 0 + i * 1 = i := by omega
  rw [e0] at q1
  have hspl : (splice L i news).length = cap := by rw [splice_length _ _ _ (by omega)]; exact hL
  have HQ1 : Hid (Blk W1 r (splice L i news).toArray 57) := q1
  have HQ2 : Hid (w.drew.grownBy W1 (some r)) := q2
  have HP : Hid (L.length = cap ∧ L.take n = xs ∧ news = xs.drop (i + 1) ∧ xs.length = n) := ⟨hL, by rw [← hn]; exact htk, by rw [hnews, hi1], hn⟩
  have HS : Hid ((splice L i news).length = cap) := hspl
  have hne : ((i : Int) == (i1 : Int)) = false := by rw [beq_eq_false_iff_ne]; omega
  have hic : i ≤ cap := by omega
  have hii : i ≤ i1 := by omega
  have hi1n : i1 ≤ n := by omega
  have hi1c : i1 ≤ cap := by omega
  have hnc : n ≤ cap := by omega
  have hx1 : i + (n - i1) = n1 := by omega
  have hx2 : n - n1 = 1 := by omega
  have hx3 : n1 ≤ n := by omega
  have hx4 : n1 ≠ cap := by omega
  have H1 : Hid (i1 = i + 1) := hi1
  have H2 : Hid (n = n1 + 1) := hn1
  clear hB hB' htk hnews hlen hW1 q1 q2 hspl hL h1c hn hle hi1 hn1
  go_enter Try.func46, Try.ntmps46
  go_wp2_with fail
  go_region_law (refine step_append_room rfl (.tmp 22) (.tmp 25) 54 rfl 57 i0 1 Try.underlying54 hi hz1 r 0 i cap (by simp [Act.eval, Act.put]) A (n - i1) (cap - i1) news (by simp [Act.eval, Act.put]) s1.out hsrc.out s2.out (by omega) s3.out ?_; rw [← HW.out, hx1])
  go_wp2_with (refine wpList_clear_row rfl _ 54 57 (Value.pointer none) rfl Try.underlying54 zero57 rfl rfl r n1 1 (cap - n1) (by simp [Act.eval]) (by omega) (splice L i news) HQ1.out (by rw [HS.out]; omega) ?_)
  intro W2 hW2 hgr
  have HB2 : Hid (Blk W2 r (splice (splice L i news) n1 (List.replicate 1 (Value.pointer none))).toArray 57) := hW2
  have HG2 : Hid (W1.grownBy W2 (some r)) := hgr
  clear hW2 hgr
  go_wp2
  go_ret
  obtain ⟨p1, p2, p3, p4⟩ := HP.out
  have hn' := H2.out
  have hi' := H1.out
  refine ⟨rfl, del_row HB2.out p1 p2 p3 p4 hn' hin (by unfold maxLen; omega) hnc, grownBy_trans HQ2.out HG2.out⟩
end Go.Proofs.Qxb6619794a
