import Derived.Test.Qxb6619794aIns
namespace Go.Proofs.Qxb6619794a
open Go.RowKit

theorem over57 (w : World) (g r i n cap : Nat) (C D : Array Value) (hne : g ≠ r) (hg : Blk w g C 57) (hr : Blk w r D 57) (hD : D.size ≠ 0) :
    (callFunc 57 #[.slice (some ⟨g, 0, none⟩) 1 1, .slice (some ⟨r, i, none⟩) n cap]).run Try.prog w = .ok (.value (.bool false)) w := by
  obtain ⟨i0, hi, hz0, hz1, hz2⟩ := info_parts (P := Try.prog) (e := 57) (z := .pointer none) (size := 1) (bytes := 8) (by kernel_rfl)
  rw [run_callFunc_extern Try.func57 (by kernel_rfl) (by kernel_rfl) (by kernel_rfl) (e := Extern.SlicesOverlaps.overlaps #[54, 54] #[4]) (by kernel_rfl)]
  rw [Lib.run_overlaps_apart w 54 4 57 Try.underlying54 1 (fun w => by simp [sizeOf, typeInfo, hi, hz1]) ⟨g, 0, none⟩ ⟨r, i, none⟩ 1 1 n cap hne 57 57 C.size D.size (by unfold Blk at hg; simp [World.shape?, hg]) (by unfold Blk at hr; simp [World.shape?, hr]) hD (hg.free _) (hg.free _)]
  rfl

theorem size57 : (Try.prog.info? 57).map (·.size) = some 1 := by kernel_rfl

set_option maxHeartbeats 1000000 in
set_option maxRecDepth 100000 in
/-- slices.Insert of one element inside, where there is room. -/
theorem ins49_room (r cap i g n : Nat) (xs : List Value) (x : Value) (hn : xs.length = n) (hin : i < n) (hroom : n + 1 ≤ cap) (hn2 : n ≤ 2000000) (w : World) (hrow : GRow w r cap 57 xs) (hg : Blk w g #[x] 57) (hne : g ≠ r) (hone : ∀ u ∈ xs, u.oneCell' = true) (hx1 : x.oneCell' = true) :
    Calls Try.prog 49 #[.slice (some ⟨r, 0, none⟩) n cap, .int .i64 i, .slice (some ⟨g, 0, none⟩) 1 1] w fun e w' => RetIns r 57 (n + 1) (xs.take i ++ x :: xs.drop i) w e w' := by
  obtain ⟨L, hcur, hsz, hlen, hmax, htk⟩ := hrow
  have hov := over57 w g r (i + 1) (n - i) (cap - (i + 1)) #[x] L.toArray hne hg hcur (by rw [List.size_toArray, hsz]; omega)
  have hne2 : ((i : Int) == (n : Int)) = false := by rw [beq_eq_false_iff_ne]; omega
  have hd1 : decide ((cap : Int) < (n : Int) + 1) = false := by rw [decide_eq_false_iff_not]; omega
  have HC : Hid (Blk w r L.toArray 57) := hcur
  have HG : Hid (Blk w g #[x] 57) := hg
  have HT : Hid (L.take xs.length = xs) := htk
  have HN : Hid (xs.length = n) := hn
  have HZ : Hid (L.length = cap) := hsz
  have HO : Hid (∀ u ∈ xs, u.oneCell' = true) := hone
  obtain ⟨ys, hys⟩ : ∃ ys, xs.drop i = ys := ⟨_, rfl⟩
  have HY : Hid (xs.drop i = ys) := hys
  have hyl : ys.length = n - i := by rw [← hys]; simp [hn]
  have HYL : Hid (ys.length = n - i) := hyl
  clear hcur hg htk hn hsz hone hlen hys hyl
  go_enter Try.func49, Try.ntmps49
  go_wp2_with (at_builtin; fail)
  obtain ⟨i1, hi1⟩ : ∃ i1, i1 = i + 1 := ⟨_, rfl⟩
  have HI1 : Hid (i1 = i + 1) := hi1
  have hw1 : IntKind.i64.wrap ((i : Int) + 1) = (i1 : Int) := by rw [← wrap_nat i1 (by omega), hi1]; congr 1
  have hx1a : (i1 : Int) ≤ (n : Int) + 1 := by omega
  have hx1b : (i : Int) ≤ (n : Int) + 1 := by omega
  have hx1c : ¬ cap = i1 := by omega
  have hx1d : ¬ cap = i := by omega
  have HCD : Hid (Blk w.drew r L.toArray 57) := HC.out
  clear hov hi1
  go_region_law ((refine step_copy_row (w := w.drew) (by rfl) (.tmp 73) (.tmp 76) 54 54 (by rfl) 57 Try.underlying54 size57 r i1 (n + 1 - i1) (cap - i1) ⟨r, i, none⟩ (n + 1 - i) (cap - i) (by simp [Act.eval, Act.put]) (by simp [Act.eval, Act.put]) L 57 HCD.out ys (by rw [HYL.out]; have := HI1.out; exact (show n - i = Nat.min (n + 1 - i) (n + 1 - i1) from by rw [this]; exact (by show n - i = min _ _; omega))) (fun j u hj => (src_cells HCD.out HT.out HY.out hj)) (by have := HI1.out; rw [HYL.out, HZ.out]; omega) (fun u hu => HO.out u (by rw [← HY.out] at hu; exact List.mem_of_mem_drop hu)) ?_; intro w1 hb1 hgr1; have HB1 : Hid (Blk w1 r (splice L (i + 1) ys).toArray 57) := (by rw [HI1.out] at hb1; exact hb1); have HGR1 : Hid (w.drew.grownBy w1 (some r)) := hgr1; clear hb1 hgr1))
  have HG1 : Hid (Blk w1 g #[x] 57) := (show Blk w.drew g #[x] 57 from HG.out).grown HGR1.out (by intro e; apply hne; injection e with e; exact e.symm)
  go_wp2_with (refine wpList_copy_row rfl _ _ 54 54 rfl 57 Try.underlying54 size57 r i (n + 1 - i) (cap - i) ⟨g, 0, none⟩ 1 1 rfl rfl (splice L (i + 1) ys) 57 HB1.out [x] (one_min (by omega)) (fun j u hj => one_cells HG1.out hj) (by rw [length_splice _ _ _ (by rw [HYL.out, HZ.out]; omega), HZ.out]; simp; omega) (by simpa using hx1) ?_)
  · intro w2 hb2 hgr2
    have HB2 : Hid (Blk w2 r (splice (splice L (i + 1) ys) i [x]).toArray 57) := hb2
    have HGR2 : Hid (w1.grownBy w2 (some r)) := hgr2
    clear hb2 hgr2
    go_wp2_with fail
    go_ret
    refine ⟨r, cap, rfl, ⟨_, HB2.out, ?_, ?_, hmax, ?_⟩, .inl rfl, grownBy_trans (w := w) HGR1.out HGR2.out⟩
    · rw [length_splice, length_splice, HZ.out]
      · rw [HYL.out, HZ.out]; omega
      · rw [length_splice _ _ _ (by rw [HYL.out, HZ.out]; omega), HZ.out]; simp; omega
    · have := HN.out; simp; omega
    · rw [HY.out]; exact ins_take HT.out HY.out HN.out HZ.out hin hroom

set_option maxHeartbeats 1000000 in
set_option maxRecDepth 100000 in
/-- slices.Insert of one element at the end: an append. -/
theorem ins49_end (r cap g n : Nat) (xs : List Value) (x : Value) (hn : xs.length = n) (hn2 : n ≤ 2000000) (w : World) (hrow : GRow w r cap 57 xs) (hg : Blk w g #[x] 57) (hx1 : x.oneCell' = true) :
    Calls Try.prog 49 #[.slice (some ⟨r, 0, none⟩) n cap, .int .i64 n, .slice (some ⟨g, 0, none⟩) 1 1] w fun e w' => RetIns r 57 (n + 1) (xs.take n ++ x :: xs.drop n) w e w' := by
  have hown : w.ownsRow 0 57 1 (.slice (some ⟨r, 0, none⟩) n cap) n xs := hrow.own hn (Nat.zero_le _)
  have hnews : ∀ j u, [x][j]? = some u → w.cell? ((⟨g, 0, none⟩ : Addr).add j) = some u := fun j u hj => one_cells hg hj
  have hle : n ≤ cap := by obtain ⟨L, _, _, h, _⟩ := hrow; omega
  have HN : Hid (xs.length = n) := hn
  obtain ⟨i0, hi, hz0, hz1, hz2⟩ := info_parts (P := Try.prog) (e := 57) (z := .pointer none) (size := 1) (bytes := 8) (by kernel_rfl)
  have hlt := hg.lt
  have HGL : Hid (r < w.heap.size) := by obtain ⟨L, h, _⟩ := hrow; exact h.lt
  clear hrow hg hn
  go_enter Try.func49, Try.ntmps49
  go_wp2_with (at_builtin; refine wpList_append_lies _ rfl _ _ 54 rfl 0 57 i0 (.pointer none) 1 8 Try.underlying54 hi hz0 hz1 hz2 rfl (by decide) _ n xs rfl hown ⟨g, 0, none⟩ 1 1 [x] rfl rfl hnews (by simpa using hx1) (by decide) (by unfold maxLen; omega) (by omega) (Nat.zero_le _) w.heap.size rfl ?_)
  all_goals
    intro g' cap' w' h1 h2 h3 h4
    have HO : Hid (w'.ownsRow 0 57 1 (.slice (some ⟨g', 0, none⟩) (n + 1) cap') (n + 1) (xs ++ [x])) := h1
    have HGR : Hid (w.grownBy w' (some r)) := h2
    have H3 : Hid ((Value.slice (some ⟨r, 0, none⟩) n cap).ownBlock = some g' ∨ g' = w.heap.size) := h3
    clear h1 h2 h3 h4 hown hnews
    go_wp2
    go_ret
    refine ⟨g', cap', rfl, ?_, ?_, HGR.out⟩
    · have := GRow.of_own HO.out
      have e : xs.take n ++ x :: xs.drop n = xs ++ [x] := by rw [List.take_of_length_le (by rw [HN.out]; exact Nat.le_refl _), List.drop_of_length_le (by rw [HN.out]; exact Nat.le_refl _)]
      rw [e]; exact this
    · rcases H3.out with h | h
      · simp [Value.ownBlock] at h; exact .inl h.symm
      · exact .inr (by rw [h]; exact Nat.le_refl _)

theorem run_zeros49 (w : World) (r i n k : Nat) (xs : List Value) (hn : xs.length = n) (hin : i < n) (hk : k = n + 1 - i) (hn2 : n ≤ 2000000) (hrow : GRow w r n 57 xs) (ty : TypeId) :
    ∃ c L, (Builtin.append_ #[54, 3] ty #[.slice (some ⟨r, 0, none⟩) i n, .int .i64 (k : Int)]).run Try.prog w = .ok (.slice (some ⟨w.heap.size, 0, none⟩) (n + 1) c) (w.drew.alloc (.cells (List.toArray L) 57)) ∧
      L.length = c ∧ n + 1 ≤ c ∧ c ≤ maxLen ∧ L.take i = xs.take i := by
  obtain ⟨i0, hi, hz0, hz1, hz2⟩ := info_parts (P := Try.prog) (e := 57) (z := .pointer none) (size := 1) (bytes := 8) (by kernel_rfl)
  obtain ⟨L, hcur, hsz, hlen, hmax, htk⟩ := hrow
  have hold : (Builtin.firstCells i0.size i (.slice (some ⟨r, 0, none⟩) i n)).run Try.prog w.drew = .ok (xs.take i).toArray w.drew := by
    rw [hz1]
    refine run_firstCells_some _ 1 i ⟨r, 0, none⟩ i n (xs.take i) (by simp; omega) ?_
    intro j u hj
    have hji : j < i := by
      rcases Nat.lt_or_ge j i with g | g
      · exact g
      · rw [List.getElem?_eq_none (by simp; omega)] at hj; cases hj
    rw [List.getElem?_take_of_lt hji] at hj
    exact src_cells (w := w.drew) (i := 0) (ys := xs) hcur htk rfl hj
  have hb : Builtin.nextslicecap (i + k) n * i0.bytes ≤ 281474976710656 := growslice_fits (by omega) (by rw [hz2]; omega)
  have := Lib.run_append_grow_zeros (P := Try.prog) w 54 3 ty 57 i0 (.pointer none) .i64 .i64 Try.underlying54 Try.underlying3 hi hz0 (some ⟨r, 0, none⟩) i n (xs.take i) hold k (by omega) (by rw [hz1]; decide) (by omega) (by omega) (by rw [hz2]; omega) hb
  have hik : i + k = n + 1 := by omega
  rw [hik] at this
  refine ⟨grownCap w (n + 1) n 57, ((xs.take i).toArray ++ Builtin.zeroCells (.pointer none : Value).cells k ++ Builtin.zeroCells (.pointer none : Value).cells (grownCap w (n + 1) n 57 - (n + 1))).toList, ?_, ?_, grownCap_ge _ _ _ _, grownCap_le_maxLen _ _ _ _ (by unfold maxLen; omega), ?_⟩
  · rw [this]
  · have h1 := grownCap_ge w (n + 1) n 57
    simp [Builtin.zeroCells, Value.cells]; omega
  · rw [Array.toList_append, Array.toList_append, List.append_assoc, List.take_append_of_le_length (by simp; omega)]
    simp [List.take_take]

theorem wpList_zeros49 {w : World} {ops : Array Oper} {rest : List Oper} {o : Oper} {a : Act} {Q : Exit → Act → World → Prop} (hgd : o.guard = none) (s x : Operand)
    (ho : o.op = .call { callee := .builtin .append, args := #[s, x], argTypes := #[54, 3] }) (r i n k : Nat) (xs : List Value) (hs : a.eval s = .slice (some ⟨r, 0, none⟩) i n) (hx : a.eval x = .int .i64 (k : Int))
    (hn : xs.length = n) (hin : i < n) (hk : k = n + 1 - i) (hn2 : n ≤ 2000000) (hrow : GRow w r n 57 xs)
    (h : ∀ c L w', Blk w' w.heap.size (List.toArray L) 57 → L.length = c → n + 1 ≤ c → c ≤ maxLen → L.take i = xs.take i → w.grownBy w' none → wpList Try.prog ops Q rest (a.put o.dst (.slice (some ⟨w.heap.size, 0, none⟩) (n + 1) c)) w') :
    wpList Try.prog ops Q (o :: rest) a w := by
  obtain ⟨c, L, hrun, h1, h2, h3, h4⟩ := run_zeros49 w r i n k xs hn hin hk hn2 hrow o.type
  refine Lib.wpList_append_run w hgd s x 54 3 ho _ _ hs hx _ _ hrun ?_
  exact h c L _ (Blk.new w.drew _ _) h1 h2 h3 h4 ⟨rfl, rfl, rfl, by simp, fun k hk _ => Below.heap_alloc w.drew _ k hk⟩

set_option maxHeartbeats 1000000 in
set_option maxRecDepth 100000 in
/-- slices.Insert of one element inside, where the array is full. -/
theorem ins49_grow (r i g n : Nat) (xs : List Value) (x : Value) (hn : xs.length = n) (hin : i < n) (hn2 : n ≤ 2000000) (w : World) (hrow : GRow w r n 57 xs) (hg : Blk w g #[x] 57) (hone : ∀ u ∈ xs, u.oneCell' = true) (hx1 : x.oneCell' = true) :
    Calls Try.prog 49 #[.slice (some ⟨r, 0, none⟩) n n, .int .i64 i, .slice (some ⟨g, 0, none⟩) 1 1] w fun e w' => RetIns r 57 (n + 1) (xs.take i ++ x :: xs.drop i) w e w' := by
  have hne2 : ((i : Int) == (n : Int)) = false := by rw [beq_eq_false_iff_ne]; omega
  have hd1 : (n : Int) < (n : Int) + 1 := by omega
  obtain ⟨k, hk⟩ : ∃ k, k = n + 1 - i := ⟨_, rfl⟩
  have hki : (n : Int) + 1 - (i : Int) = (k : Int) := by omega
  have HK : Hid (k = n + 1 - i) := hk
  have HR : Hid (GRow w r n 57 xs) := hrow
  have HG : Hid (Blk w g #[x] 57) := hg
  have HN : Hid (xs.length = n) := hn
  have HO : Hid (∀ u ∈ xs, u.oneCell' = true) := hone
  obtain ⟨ys, hys⟩ : ∃ ys, xs.drop i = ys := ⟨_, rfl⟩
  have HY : Hid (xs.drop i = ys) := hys
  have hyl : ys.length = n - i := by rw [← hys]; simp [hn]
  have HYL : Hid (ys.length = n - i) := hyl
  clear hrow hg hn hone hys hyl hk
  go_enter Try.func49, Try.ntmps49
  go_wp2_with (at_builtin; refine wpList_zeros49 rfl _ _ rfl r i n k xs rfl rfl HN.out hin HK.out hn2 HR.out ?_)
  intro c L w1 hb1 hLl hc1 hc2 hLt hgr1
  obtain ⟨N, hN⟩ : ∃ N, w.heap.size = N := ⟨_, rfl⟩
  have HNN : Hid (w.heap.size = N) := hN
  rw [hN] at hb1
  rw [hN]
  have HB1 : Hid (Blk w1 N L.toArray 57) := hb1
  have HLL : Hid (L.length = c) := hLl
  have HLT : Hid (L.take i = xs.take i) := hLt
  have HGR1 : Hid (w.grownBy w1 none) := hgr1
  have HG1 : Hid (Blk w1 g #[x] 57) := HG.out.grown hgr1 (by intro e; cases e)
  obtain ⟨L0, hcur, hsz, hlen, hmax, htk⟩ := HR.out
  have hrlt : r < N := by rw [← hN]; exact hcur.lt
  have HC1 : Hid (Blk w1 r L0.toArray 57) := hcur.grown hgr1 (by intro e; cases e)
  have HT0 : Hid (L0.take xs.length = xs) := htk
  clear hb1 hLl hLt hgr1 hN hcur hsz hlen hmax htk hki
  have hci : ¬ c = i := by omega
  go_wp2_with (refine wpList_copy_row rfl _ _ 54 54 rfl 57 Try.underlying54 size57 N i (n + 1 - i) (c - i) ⟨g, 0, none⟩ 1 1 rfl rfl L 57 HB1.out [x] (one_min (by omega)) (fun j u hj => one_cells HG1.out hj) (by rw [HLL.out]; simp; omega) (by simpa using hx1) ?_)
  intro w2 hb2 hgr2
  have HB2 : Hid (Blk w2 N (splice L i [x]).toArray 57) := hb2
  have HGR2 : Hid (w1.grownBy w2 (some N)) := hgr2
  have HC2 : Hid (Blk w2 r L0.toArray 57) := HC1.out.grown hgr2 (by intro e; injection e with e; omega)
  clear hb2 hgr2
  go_wp2_with fail
  obtain ⟨i1, hi1⟩ : ∃ i1, i1 = i + 1 := ⟨_, rfl⟩
  have HI1 : Hid (i1 = i + 1) := hi1
  have hw1 : IntKind.i64.wrap ((i : Int) + 1) = (i1 : Int) := by rw [← wrap_nat i1 (by omega), hi1]; congr 1
  have hx1a : (i1 : Int) ≤ (n : Int) + 1 := by omega
  have hx1b : (i : Int) ≤ (n : Int) := by omega
  have hx1c : ¬ c = i1 := by omega
  have hx1d : ¬ n = i := by omega
  have HCD : Hid (Blk w2.drew r L0.toArray 57) := HC2.out
  have HBD : Hid (Blk w2.drew N (splice L i [x]).toArray 57) := HB2.out
  clear hi1
  go_region_law ((refine step_copy_row (w := w2.drew) (by rfl) (.tmp 50) (.tmp 53) 54 54 (by rfl) 57 Try.underlying54 size57 N i1 (n + 1 - i1) (c - i1) ⟨r, i, none⟩ (n - i) (n - i) (by simp [Act.eval, Act.put]) (by simp [Act.eval, Act.put]) (splice L i [x]) 57 HBD.out ys (by rw [HYL.out]; have := HI1.out; exact (show n - i = Nat.min (n - i) (n + 1 - i1) from by rw [this]; exact (by show n - i = min _ _; omega))) (fun j u hj => (src_cells HCD.out HT0.out HY.out hj)) (by have := HI1.out; rw [HYL.out, length_splice _ _ _ (by rw [HLL.out]; simp; omega), HLL.out]; omega) (fun u hu => HO.out u (by rw [← HY.out] at hu; exact List.mem_of_mem_drop hu)) ?_; intro w3 hb3 hgr3; have HB3 : Hid (Blk w3 N (splice (splice L i [x]) (i + 1) ys).toArray 57) := (by rw [HI1.out] at hb3; exact hb3); have HGR3 : Hid (w2.drew.grownBy w3 (some N)) := hgr3; clear hb3 hgr3))
  go_wp2_with fail
  go_ret
  refine ⟨N, c, rfl, ⟨_, HB3.out, ?_, ?_, hc2, ?_⟩, .inr (by rw [HNN.out]; exact Nat.le_refl _), ?_⟩
  · rw [length_splice, length_splice, HLL.out]
    · rw [HLL.out]; simp; omega
    · rw [length_splice _ _ _ (by rw [HLL.out]; simp; omega), HLL.out, HYL.out]; omega
  · have := HN.out; simp; omega
  · rw [HY.out]; exact grow_take HLT.out HYL.out HN.out HLL.out hin hc1
  · have h1 := HGR1.out; have h2 := HGR2.out; have h3 := HGR3.out; have hN := HNN.out
    refine ⟨h3.os.trans (h2.os.trans h1.os), h3.tape.trans (h2.tape.trans h1.tape), h3.output.trans (h2.output.trans h1.output), Nat.le_trans h1.size (Nat.le_trans h2.size h3.size), fun q hq hne => ?_⟩
    have hqN : some q ≠ some N := by intro e; injection e with e; omega
    rw [h3.block q (show q < w2.heap.size from Nat.lt_of_lt_of_le hq (Nat.le_trans h1.size h2.size)) hqN]
    show w2.heap[q]? = _
    rw [h2.block q (Nat.lt_of_lt_of_le hq h1.size) hqN, h1.block q hq (by intro e; cases e)]

/-- slices.Insert of one element, wherever. -/
theorem ins49 (r cap i g n : Nat) (xs : List Value) (x : Value) (hn : xs.length = n) (hin : i ≤ n) (hn2 : n ≤ 2000000) (w : World) (hrow : GRow w r cap 57 xs) (hg : Blk w g #[x] 57) (hne : g ≠ r) (hone : ∀ u ∈ xs, u.oneCell' = true) (hx1 : x.oneCell' = true) :
    Calls Try.prog 49 #[.slice (some ⟨r, 0, none⟩) n cap, .int .i64 i, .slice (some ⟨g, 0, none⟩) 1 1] w fun e w' => RetIns r 57 (n + 1) (xs.take i ++ x :: xs.drop i) w e w' := by
  rcases Nat.lt_or_ge i n with h | h
  · rcases Nat.lt_or_ge n cap with h2 | h2
    · exact ins49_room r cap i g n xs x hn h h2 hn2 w hrow hg hne hone hx1
    · have : cap = n := by obtain ⟨L, _, _, h, _⟩ := hrow; omega
      subst this
      exact ins49_grow r i g cap xs x hn h hn2 w hrow hg hone hx1
  · have : i = n := by omega
    subst this
    exact ins49_end r cap g i xs x hn hn2 w hrow hg hx1
end Go.Proofs.Qxb6619794a
