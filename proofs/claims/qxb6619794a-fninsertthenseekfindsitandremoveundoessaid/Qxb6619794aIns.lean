import Derived.Test.Qxb6619794aRep
namespace Go.Proofs.Qxb6619794a
open Go.RowKit

/-- Block r is a row of cap cells of type t, the first of which are xs. -/
def GRow (w : World) (r cap : Nat) (t : TypeId) (xs : List Value) : Prop :=
  ∃ L : List Value, Blk w r L.toArray t ∧ L.length = cap ∧ xs.length ≤ cap ∧ cap ≤ maxLen ∧ L.take xs.length = xs

def RetIns (r : Nat) (t : TypeId) (n : Nat) (xs : List Value) (w : World) (e : Ending) (w' : World) : Prop :=
  ∃ r' cap', e = .returned (.slice (some ⟨r', 0, none⟩) n cap') ∧ GRow w' r' cap' t xs ∧ (r' = r ∨ w.heap.size ≤ r') ∧ w.grownBy w' (some r)

theorem GRow.own {w : World} {r cap n : Nat} {t : TypeId} {xs : List Value} (h : GRow w r cap t xs) (hn : xs.length = n) {B : Nat} (hB : B ≤ r) : w.ownsRow B t 1 (.slice (some ⟨r, 0, none⟩) n cap) n xs := by
  obtain ⟨L, h1, h2, h3, h4, h5⟩ := h
  subst hn
  exact ⟨by simp, .inr ⟨r, cap, L.toArray, rfl, hB, h1, h3, h4, by simpa using h2, by simpa using h5⟩⟩

theorem GRow.of_own {w : World} {B r n cap : Nat} {t : TypeId} {xs : List Value} (h : w.ownsRow B t 1 (.slice (some ⟨r, 0, none⟩) n cap) n xs) : GRow w r cap t xs := by
  obtain ⟨h1, h⟩ := h
  have hn : n = xs.length := by omega
  subst hn
  rcases h with ⟨h, _⟩ | ⟨g, cap', cur, hv, hB, hg, h3, h4, h2, h5⟩
  · cases h
  · cases hv
    exact ⟨cur.toList, by rw [Array.toArray_toList]; exact hg, by simpa using h2, h3, h4, by simpa using h5⟩

theorem grownBy_trans {w w1 w2 : World} {r : Nat} (h1 : w.drew.grownBy w1 (some r)) (h2 : w1.grownBy w2 (some r)) : w.grownBy w2 (some r) :=
  ⟨h2.os.trans h1.os, h2.tape.trans h1.tape, h2.output.trans h1.output, Nat.le_trans h1.size h2.size, fun k hk hne => by
    rw [h2.block k (Nat.lt_of_lt_of_le hk h1.size) hne, h1.block k hk hne]; rfl⟩

theorem setRow_grown (w : World) (g : Nat) (C : Array Value) : w.grownBy (w.setRow g C) (some g) :=
  ⟨rfl, rfl, rfl, by simp [World.setRow], fun k _ hne => setRow_other w g k C (fun e => hne (by rw [e]))⟩

/-- copy as one step of a region that draws. -/
theorem step_copy_row {w : World} {ops : Array Oper} {o : Oper} {a : Act} {K : Act → World → Prop} {Q : Exit → Act → World → Prop} {E : Prop} (hgd : o.guard = none) (d s : Operand) (dT sT : TypeId)
    (ho : o.op = .call { callee := .builtin .copy, args := #[d, s], argTypes := #[dT, sT] }) (elem : TypeId) (hu : Try.prog.underlying dT = some (.slice elem)) (hsz : (Try.prog.info? elem).map (·.size) = some 1)
    (g off dLen dCap : Nat) (ad : Addr) (sLen sCap : Nat) (hd : a.eval d = .slice (some ⟨g, off, none⟩) dLen dCap) (hs : a.eval s = .slice (some ad) sLen sCap)
    (L : List Value) (t : TypeId) (hg : Blk w g L.toArray t) (cs : List Value) (hn : cs.length = Nat.min sLen dLen)
    (hsrc : ∀ j v, cs[j]? = some v → w.cell? (ad.add j) = some v) (hfit : off + cs.length ≤ L.length) (h1 : ∀ v ∈ cs, v.oneCell' = true)
    (h : ∀ w', Blk w' g (splice L off cs).toArray t → w.grownBy w' (some g) → K (a.put o.dst (goInt cs.length)) w') :
    if Region.wanted o (yielded ops a.tmps) = true then Oper.wp Try.prog o a w K Q else E := by
  have hw : Region.wanted o (yielded ops a.tmps) = true := by simp [Region.wanted, hgd]
  rw [if_pos hw]
  have hrun := run_copy_row (P := Try.prog) w dT sT o.type elem g off dLen dCap ad sLen sCap L.toArray t cs hu hsz hg hn hsrc (by simpa using hfit) h1
  unfold Oper.wp
  simp [execOp, ho, resolve, invoke, builtin, hd, hs, hrun, Result.andThen]
  exact h _ (show _ = _ by simpa [splice] using setRow_heap w g _ _ t _ hg) (setRow_grown _ _ _)

theorem wpList_copy_row {w : World} {ops : Array Oper} {rest : List Oper} {o : Oper} {a : Act} {Q : Exit → Act → World → Prop} (hgd : o.guard = none) (d s : Operand) (dT sT : TypeId)
    (ho : o.op = .call { callee := .builtin .copy, args := #[d, s], argTypes := #[dT, sT] }) (elem : TypeId) (hu : Try.prog.underlying dT = some (.slice elem)) (hsz : (Try.prog.info? elem).map (·.size) = some 1)
    (g off dLen dCap : Nat) (ad : Addr) (sLen sCap : Nat) (hd : a.eval d = .slice (some ⟨g, off, none⟩) dLen dCap) (hs : a.eval s = .slice (some ad) sLen sCap)
    (L : List Value) (t : TypeId) (hg : Blk w g L.toArray t) (cs : List Value) (hn : cs.length = Nat.min sLen dLen)
    (hsrc : ∀ j v, cs[j]? = some v → w.cell? (ad.add j) = some v) (hfit : off + cs.length ≤ L.length) (h1 : ∀ v ∈ cs, v.oneCell' = true)
    (h : ∀ w', Blk w' g (splice L off cs).toArray t → w.grownBy w' (some g) → wpList Try.prog ops Q rest (a.put o.dst (goInt cs.length)) w') : wpList Try.prog ops Q (o :: rest) a w := by
  refine wpList_copy_own hgd d s dT sT ho elem hu hsz g off dLen dCap ad sLen sCap hd hs L.toArray t hg cs hn hsrc (by simpa using hfit) h1 ?_
  have := h (w.setRow g (splice L off cs).toArray) (show _ = _ by simpa [splice] using setRow_heap w g _ _ t _ hg) (setRow_grown _ _ _)
  simpa [splice] using this

theorem one_min {k : Nat} (h : 1 ≤ k) {x : Value} : [x].length = Nat.min 1 k := (Nat.min_eq_left h).symm

theorem one_cells {w : World} {g : Nat} {x : Value} {t : TypeId} (h : Blk w g #[x] t) {j : Nat} {u : Value} (hj : [x][j]? = some u) : w.cell? ((⟨g, 0, none⟩ : Addr).add j) = some u := by
  rw [addr_add, h.cell, Nat.zero_add]
  match j, hj with
  | 0, hj => simpa using hj

theorem src_cells {w : World} {r : Nat} {t : TypeId} {L xs ys : List Value} {i : Nat} (h : Blk w r L.toArray t) (ht : L.take xs.length = xs) (hy : xs.drop i = ys) {j : Nat} {u : Value} (hj : ys[j]? = some u) : w.cell? ((⟨r, i, none⟩ : Addr).add j) = some u := by
  rw [addr_add, h.cell, List.getElem?_toArray]
  rw [← hy, List.getElem?_drop] at hj
  have hl : i + j < xs.length := by
    rcases Nat.lt_or_ge (i + j) xs.length with g | g
    · exact g
    · rw [List.getElem?_eq_none g] at hj; cases hj
  rw [← ht, List.getElem?_take_of_lt hl] at hj
  exact hj

theorem grow_take {L xs ys : List Value} {x : Value} {i n c : Nat} (ht : L.take i = xs.take i) (hyl : ys.length = n - i) (_hn : xs.length = n) (hz : L.length = c) (hin : i < n) (hc : n + 1 ≤ c) :
    (splice (splice L i [x]) (i + 1) ys).take (xs.take i ++ x :: ys).length = xs.take i ++ x :: ys := by
  have e1 : splice (splice L i [x]) (i + 1) ys = (xs.take i ++ x :: ys) ++ L.drop (i + 1 + ys.length) := by
    unfold splice
    have e2 : (L.take i ++ ([x] ++ L.drop (i + [x].length))).take (i + 1) = xs.take i ++ [x] := by
      rw [← List.append_assoc, List.take_append_of_le_length (by simp; omega), List.take_of_length_le (by simp; omega), ht]
    rw [e2, List.drop_append, List.drop_of_length_le (by simp; omega), List.nil_append, List.drop_append, List.drop_of_length_le (by simp; omega), List.nil_append, List.drop_drop]
    have : (i + [x].length + (i + 1 + ys.length - (L.take i).length - [x].length)) = i + 1 + ys.length := by simp; omega
    rw [this]; simp
  rw [e1, List.take_left]

theorem ins_take {L xs ys : List Value} {x : Value} {i n cap : Nat} (ht : L.take xs.length = xs) (hy : xs.drop i = ys) (hn : xs.length = n) (hz : L.length = cap) (hin : i < n) (hroom : n + 1 ≤ cap) :
    (splice (splice L (i + 1) ys) i [x]).take (xs.take i ++ x :: ys).length = xs.take i ++ x :: ys := by
  have hyl : ys.length = n - i := by rw [← hy]; simp [hn]
  have e0 : L.take i = xs.take i := by rw [← ht, List.take_take]; congr 1; omega
  have e1 : splice (splice L (i + 1) ys) i [x] = xs.take i ++ x :: (ys ++ L.drop (i + 1 + ys.length)) := by
    unfold splice
    rw [List.take_append_of_le_length (by rw [List.length_take]; omega), List.take_take, Nat.min_eq_left (by omega), e0]
    congr 1
    rw [List.drop_append, List.drop_of_length_le (by rw [List.length_take]; simp; omega)]
    have : i + [x].length - (L.take (i + 1)).length = 0 := by simp; omega
    rw [this]; simp
  rw [e1]
  have : xs.take i ++ x :: (ys ++ L.drop (i + 1 + ys.length)) = (xs.take i ++ x :: ys) ++ L.drop (i + 1 + ys.length) := by simp
  rw [this, List.take_left]

theorem over55 (w : World) (g r i n cap : Nat) (C D : Array Value) (hne : g ≠ r) (hg : Blk w g C 9) (hr : Blk w r D 9) (hD : D.size ≠ 0) :
    (callFunc 55 #[.slice (some ⟨g, 0, none⟩) 1 1, .slice (some ⟨r, i, none⟩) n cap]).run Try.prog w = .ok (.value (.bool false)) w := by
  obtain ⟨i0, hi, hz0, hz1, hz2⟩ := info_parts (P := Try.prog) (e := 9) (z := .string ByteArray.empty) (size := 1) (bytes := 16) (by kernel_rfl)
  rw [run_callFunc_extern Try.func55 (by kernel_rfl) (by kernel_rfl) (by kernel_rfl) (e := Extern.SlicesOverlaps.overlaps #[30, 30] #[4]) (by kernel_rfl)]
  rw [Lib.run_overlaps_apart w 30 4 9 Try.underlying30 1 (fun w => by simp [sizeOf, typeInfo, hi, hz1]) ⟨g, 0, none⟩ ⟨r, i, none⟩ 1 1 n cap hne 9 9 C.size D.size (by unfold Blk at hg; simp [World.shape?, hg]) (by unfold Blk at hr; simp [World.shape?, hr]) hD (hg.free _) (hg.free _)]
  rfl

theorem size9 : (Try.prog.info? 9).map (·.size) = some 1 := by kernel_rfl

set_option maxHeartbeats 1000000 in
set_option maxRecDepth 100000 in
/-- slices.Insert of one element inside, where there is room. -/
theorem ins47_room (r cap i g n : Nat) (xs : List Value) (x : Value) (hn : xs.length = n) (hin : i < n) (hroom : n + 1 ≤ cap) (hn2 : n ≤ 2000000) (w : World) (hrow : GRow w r cap 9 xs) (hg : Blk w g #[x] 9) (hne : g ≠ r) (hone : ∀ u ∈ xs, u.oneCell' = true) (hx1 : x.oneCell' = true) :
    Calls Try.prog 47 #[.slice (some ⟨r, 0, none⟩) n cap, .int .i64 i, .slice (some ⟨g, 0, none⟩) 1 1] w fun e w' => RetIns r 9 (n + 1) (xs.take i ++ x :: xs.drop i) w e w' := by
  obtain ⟨L, hcur, hsz, hlen, hmax, htk⟩ := hrow
  have hov := over55 w g r (i + 1) (n - i) (cap - (i + 1)) #[x] L.toArray hne hg hcur (by rw [List.size_toArray, hsz]; omega)
  have hne2 : ((i : Int) == (n : Int)) = false := by rw [beq_eq_false_iff_ne]; omega
  have hd1 : decide ((cap : Int) < (n : Int) + 1) = false := by rw [decide_eq_false_iff_not]; omega
  have HC : Hid (Blk w r L.toArray 9) := hcur
  have HG : Hid (Blk w g #[x] 9) := hg
  have HT : Hid (L.take xs.length = xs) := htk
  have HN : Hid (xs.length = n) := hn
  have HZ : Hid (L.length = cap) := hsz
  have HO : Hid (∀ u ∈ xs, u.oneCell' = true) := hone
  obtain ⟨ys, hys⟩ : ∃ ys, xs.drop i = ys := ⟨_, rfl⟩
  have HY : Hid (xs.drop i = ys) := hys
  have hyl : ys.length = n - i := by rw [← hys]; simp [hn]
  have HYL : Hid (ys.length = n - i) := hyl
  clear hcur hg htk hn hsz hone hlen hys hyl
  go_enter Try.func47, Try.ntmps47
  go_wp2_with (at_builtin; fail)
  obtain ⟨i1, hi1⟩ : ∃ i1, i1 = i + 1 := ⟨_, rfl⟩
  have HI1 : Hid (i1 = i + 1) := hi1
  have hw1 : IntKind.i64.wrap ((i : Int) + 1) = (i1 : Int) := by rw [← wrap_nat i1 (by omega), hi1]; congr 1
  have hx1a : (i1 : Int) ≤ (n : Int) + 1 := by omega
  have hx1b : (i : Int) ≤ (n : Int) + 1 := by omega
  have hx1c : ¬ cap = i1 := by omega
  have hx1d : ¬ cap = i := by omega
  have HCD : Hid (Blk w.drew r L.toArray 9) := HC.out
  clear hov hi1
  go_region_law ((refine step_copy_row (w := w.drew) (by rfl) (.tmp 73) (.tmp 76) 30 30 (by rfl) 9 Try.underlying30 size9 r i1 (n + 1 - i1) (cap - i1) ⟨r, i, none⟩ (n + 1 - i) (cap - i) (by simp [Act.eval, Act.put]) (by simp [Act.eval, Act.put]) L 9 HCD.out ys (by rw [HYL.out]; have := HI1.out; exact (show n - i = Nat.min (n + 1 - i) (n + 1 - i1) from by rw [this]; exact (by show n - i = min _ _; omega))) (fun j u hj => (src_cells HCD.out HT.out HY.out hj)) (by have := HI1.out; rw [HYL.out, HZ.out]; omega) (fun u hu => HO.out u (by rw [← HY.out] at hu; exact List.mem_of_mem_drop hu)) ?_; intro w1 hb1 hgr1; have HB1 : Hid (Blk w1 r (splice L (i + 1) ys).toArray 9) := (by rw [HI1.out] at hb1; exact hb1); have HGR1 : Hid (w.drew.grownBy w1 (some r)) := hgr1; clear hb1 hgr1))
  have HG1 : Hid (Blk w1 g #[x] 9) := (show Blk w.drew g #[x] 9 from HG.out).grown HGR1.out (by intro e; apply hne; injection e with e; exact e.symm)
  go_wp2_with (refine wpList_copy_row rfl _ _ 30 30 rfl 9 Try.underlying30 size9 r i (n + 1 - i) (cap - i) ⟨g, 0, none⟩ 1 1 rfl rfl (splice L (i + 1) ys) 9 HB1.out [x] (one_min (by omega)) (fun j u hj => one_cells HG1.out hj) (by rw [length_splice _ _ _ (by rw [HYL.out, HZ.out]; omega), HZ.out]; simp; omega) (by simpa using hx1) ?_)
  · intro w2 hb2 hgr2
    have HB2 : Hid (Blk w2 r (splice (splice L (i + 1) ys) i [x]).toArray 9) := hb2
    have HGR2 : Hid (w1.grownBy w2 (some r)) := hgr2
    clear hb2 hgr2
    go_wp2_with fail
    go_ret
    refine ⟨r, cap, rfl, ⟨_, HB2.out, ?_, ?_, hmax, ?_⟩, .inl rfl, grownBy_trans (w := w) HGR1.out HGR2.out⟩
    · rw [length_splice, length_splice, HZ.out]
      · rw [HYL.out, HZ.out]; omega
      · rw [length_splice _ _ _ (by rw [HYL.out, HZ.out]; omega), HZ.out]; simp; omega
    · have := HN.out; simp; omega
    · rw [HY.out]; exact ins_take HT.out HY.out HN.out HZ.out hin hroom

set_option maxHeartbeats 1000000 in
set_option maxRecDepth 100000 in
/-- slices.Insert of one element at the end: an append. -/
theorem ins47_end (r cap g n : Nat) (xs : List Value) (x : Value) (hn : xs.length = n) (hn2 : n ≤ 2000000) (w : World) (hrow : GRow w r cap 9 xs) (hg : Blk w g #[x] 9) (hx1 : x.oneCell' = true) :
    Calls Try.prog 47 #[.slice (some ⟨r, 0, none⟩) n cap, .int .i64 n, .slice (some ⟨g, 0, none⟩) 1 1] w fun e w' => RetIns r 9 (n + 1) (xs.take n ++ x :: xs.drop n) w e w' := by
  have hown : w.ownsRow 0 9 1 (.slice (some ⟨r, 0, none⟩) n cap) n xs := hrow.own hn (Nat.zero_le _)
  have hnews : ∀ j u, [x][j]? = some u → w.cell? ((⟨g, 0, none⟩ : Addr).add j) = some u := fun j u hj => one_cells hg hj
  have hle : n ≤ cap := by obtain ⟨L, _, _, h, _⟩ := hrow; omega
  have HN : Hid (xs.length = n) := hn
  obtain ⟨i0, hi, hz0, hz1, hz2⟩ := info_parts (P := Try.prog) (e := 9) (z := .string ByteArray.empty) (size := 1) (bytes := 16) (by kernel_rfl)
  have hlt := hg.lt
  have HGL : Hid (r < w.heap.size) := by obtain ⟨L, h, _⟩ := hrow; exact h.lt
  clear hrow hg hn
  go_enter Try.func47, Try.ntmps47
  go_wp2_with (at_builtin; refine wpList_append_lies _ rfl _ _ 30 rfl 0 9 i0 (.string ByteArray.empty) 1 16 Try.underlying30 hi hz0 hz1 hz2 rfl (by decide) _ n xs rfl hown ⟨g, 0, none⟩ 1 1 [x] rfl rfl hnews (by simpa using hx1) (by decide) (by unfold maxLen; omega) (by omega) (Nat.zero_le _) w.heap.size rfl ?_)
  all_goals
    intro g' cap' w' h1 h2 h3 h4
    have HO : Hid (w'.ownsRow 0 9 1 (.slice (some ⟨g', 0, none⟩) (n + 1) cap') (n + 1) (xs ++ [x])) := h1
    have HGR : Hid (w.grownBy w' (some r)) := h2
    have H3 : Hid ((Value.slice (some ⟨r, 0, none⟩) n cap).ownBlock = some g' ∨ g' = w.heap.size) := h3
    clear h1 h2 h3 h4 hown hnews
    go_wp2
    go_ret
    refine ⟨g', cap', rfl, ?_, ?_, HGR.out⟩
    · have := GRow.of_own HO.out
      have e : xs.take n ++ x :: xs.drop n = xs ++ [x] := by rw [List.take_of_length_le (by rw [HN.out]; exact Nat.le_refl _), List.drop_of_length_le (by rw [HN.out]; exact Nat.le_refl _)]
      rw [e]; exact this
    · rcases H3.out with h | h
      · simp [Value.ownBlock] at h; exact .inl h.symm
      · exact .inr (by rw [h]; exact Nat.le_refl _)

theorem run_zeros47 (w : World) (r i n k : Nat) (xs : List Value) (hn : xs.length = n) (hin : i < n) (hk : k = n + 1 - i) (hn2 : n ≤ 2000000) (hrow : GRow w r n 9 xs) (ty : TypeId) :
    ∃ c L, (Builtin.append_ #[30, 3] ty #[.slice (some ⟨r, 0, none⟩) i n, .int .i64 (k : Int)]).run Try.prog w = .ok (.slice (some ⟨w.heap.size, 0, none⟩) (n + 1) c) (w.drew.alloc (.cells (List.toArray L) 9)) ∧
      L.length = c ∧ n + 1 ≤ c ∧ c ≤ maxLen ∧ L.take i = xs.take i := by
  obtain ⟨i0, hi, hz0, hz1, hz2⟩ := info_parts (P := Try.prog) (e := 9) (z := .string ByteArray.empty) (size := 1) (bytes := 16) (by kernel_rfl)
  obtain ⟨L, hcur, hsz, hlen, hmax, htk⟩ := hrow
  have hold : (Builtin.firstCells i0.size i (.slice (some ⟨r, 0, none⟩) i n)).run Try.prog w.drew = .ok (xs.take i).toArray w.drew := by
    rw [hz1]
    refine run_firstCells_some _ 1 i ⟨r, 0, none⟩ i n (xs.take i) (by simp; omega) ?_
    intro j u hj
    have hji : j < i := by
      rcases Nat.lt_or_ge j i with g | g
      · exact g
      · rw [List.getElem?_eq_none (by simp; omega)] at hj; cases hj
    rw [List.getElem?_take_of_lt hji] at hj
    exact src_cells (w := w.drew) (i := 0) (ys := xs) hcur htk rfl hj
  have hb : Builtin.nextslicecap (i + k) n * i0.bytes ≤ 281474976710656 := growslice_fits (by omega) (by rw [hz2]; omega)
  have := Lib.run_append_grow_zeros (P := Try.prog) w 30 3 ty 9 i0 (.string ByteArray.empty) .i64 .i64 Try.underlying30 Try.underlying3 hi hz0 (some ⟨r, 0, none⟩) i n (xs.take i) hold k (by omega) (by rw [hz1]; decide) (by omega) (by omega) (by rw [hz2]; omega) hb
  have hik : i + k = n + 1 := by omega
  rw [hik] at this
  refine ⟨grownCap w (n + 1) n 9, ((xs.take i).toArray ++ Builtin.zeroCells (.string ByteArray.empty : Value).cells k ++ Builtin.zeroCells (.string ByteArray.empty : Value).cells (grownCap w (n + 1) n 9 - (n + 1))).toList, ?_, ?_, grownCap_ge _ _ _ _, grownCap_le_maxLen _ _ _ _ (by unfold maxLen; omega), ?_⟩
  · rw [this]
  · have h1 := grownCap_ge w (n + 1) n 9
    simp [Builtin.zeroCells, Value.cells]; omega
  · rw [Array.toList_append, Array.toList_append, List.append_assoc, List.take_append_of_le_length (by simp; omega)]
    simp [List.take_take]

theorem wpList_zeros47 {w : World} {ops : Array Oper} {rest : List Oper} {o : Oper} {a : Act} {Q : Exit → Act → World → Prop} (hgd : o.guard = none) (s x : Operand)
    (ho : o.op = .call { callee := .builtin .append, args := #[s, x], argTypes := #[30, 3] }) (r i n k : Nat) (xs : List Value) (hs : a.eval s = .slice (some ⟨r, 0, none⟩) i n) (hx : a.eval x = .int .i64 (k : Int))
    (hn : xs.length = n) (hin : i < n) (hk : k = n + 1 - i) (hn2 : n ≤ 2000000) (hrow : GRow w r n 9 xs)
    (h : ∀ c L w', Blk w' w.heap.size (List.toArray L) 9 → L.length = c → n + 1 ≤ c → c ≤ maxLen → L.take i = xs.take i → w.grownBy w' none → wpList Try.prog ops Q rest (a.put o.dst (.slice (some ⟨w.heap.size, 0, none⟩) (n + 1) c)) w') :
    wpList Try.prog ops Q (o :: rest) a w := by
  obtain ⟨c, L, hrun, h1, h2, h3, h4⟩ := run_zeros47 w r i n k xs hn hin hk hn2 hrow o.type
  refine Lib.wpList_append_run w hgd s x 30 3 ho _ _ hs hx _ _ hrun ?_
  exact h c L _ (Blk.new w.drew _ _) h1 h2 h3 h4 ⟨rfl, rfl, rfl, by simp, fun k hk _ => Below.heap_alloc w.drew _ k hk⟩

set_option maxHeartbeats 1000000 in
set_option maxRecDepth 100000 in
/-- slices.Insert of one element inside, where the array is full. -/
theorem ins47_grow (r i g n : Nat) (xs : List Value) (x : Value) (hn : xs.length = n) (hin : i < n) (hn2 : n ≤ 2000000) (w : World) (hrow : GRow w r n 9 xs) (hg : Blk w g #[x] 9) (hone : ∀ u ∈ xs, u.oneCell' = true) (hx1 : x.oneCell' = true) :
    Calls Try.prog 47 #[.slice (some ⟨r, 0, none⟩) n n, .int .i64 i, .slice (some ⟨g, 0, none⟩) 1 1] w fun e w' => RetIns r 9 (n + 1) (xs.take i ++ x :: xs.drop i) w e w' := by
  have hne2 : ((i : Int) == (n : Int)) = false := by rw [beq_eq_false_iff_ne]; omega
  have hd1 : (n : Int) < (n : Int) + 1 := by omega
  obtain ⟨k, hk⟩ : ∃ k, k = n + 1 - i := ⟨_, rfl⟩
  have hki : (n : Int) + 1 - (i : Int) = (k : Int) := by omega
  have HK : Hid (k = n + 1 - i) := hk
  have HR : Hid (GRow w r n 9 xs) := hrow
  have HG : Hid (Blk w g #[x] 9) := hg
  have HN : Hid (xs.length = n) := hn
  have HO : Hid (∀ u ∈ xs, u.oneCell' = true) := hone
  obtain ⟨ys, hys⟩ : ∃ ys, xs.drop i = ys := ⟨_, rfl⟩
  have HY : Hid (xs.drop i = ys) := hys
  have hyl : ys.length = n - i := by rw [← hys]; simp [hn]
  have HYL : Hid (ys.length = n - i) := hyl
  clear hrow hg hn hone hys hyl hk
  go_enter Try.func47, Try.ntmps47
  go_wp2_with (at_builtin; refine wpList_zeros47 rfl _ _ rfl r i n k xs rfl rfl HN.out hin HK.out hn2 HR.out ?_)
  intro c L w1 hb1 hLl hc1 hc2 hLt hgr1
  obtain ⟨N, hN⟩ : ∃ N, w.heap.size = N := ⟨_, rfl⟩
  have HNN : Hid (w.heap.size = N) := hN
  rw [hN] at hb1
  rw [hN]
  have HB1 : Hid (Blk w1 N L.toArray 9) := hb1
  have HLL : Hid (L.length = c) := hLl
  have HLT : Hid (L.take i = xs.take i) := hLt
  have HGR1 : Hid (w.grownBy w1 none) := hgr1
  have HG1 : Hid (Blk w1 g #[x] 9) := HG.out.grown hgr1 (by intro e; cases e)
  obtain ⟨L0, hcur, hsz, hlen, hmax, htk⟩ := HR.out
  have hrlt : r < N := by rw [← hN]; exact hcur.lt
  have HC1 : Hid (Blk w1 r L0.toArray 9) := hcur.grown hgr1 (by intro e; cases e)
  have HT0 : Hid (L0.take xs.length = xs) := htk
  clear hb1 hLl hLt hgr1 hN hcur hsz hlen hmax htk hki
  have hci : ¬ c = i := by omega
  go_wp2_with (refine wpList_copy_row rfl _ _ 30 30 rfl 9 Try.underlying30 size9 N i (n + 1 - i) (c - i) ⟨g, 0, none⟩ 1 1 rfl rfl L 9 HB1.out [x] (one_min (by omega)) (fun j u hj => one_cells HG1.out hj) (by rw [HLL.out]; simp; omega) (by simpa using hx1) ?_)
  intro w2 hb2 hgr2
  have HB2 : Hid (Blk w2 N (splice L i [x]).toArray 9) := hb2
  have HGR2 : Hid (w1.grownBy w2 (some N)) := hgr2
  have HC2 : Hid (Blk w2 r L0.toArray 9) := HC1.out.grown hgr2 (by intro e; injection e with e; omega)
  clear hb2 hgr2
  go_wp2_with fail
  obtain ⟨i1, hi1⟩ : ∃ i1, i1 = i + 1 := ⟨_, rfl⟩
  have HI1 : Hid (i1 = i + 1) := hi1
  have hw1 : IntKind.i64.wrap ((i : Int) + 1) = (i1 : Int) := by rw [← wrap_nat i1 (by omega), hi1]; congr 1
  have hx1a : (i1 : Int) ≤ (n : Int) + 1 := by omega
  have hx1b : (i : Int) ≤ (n : Int) := by omega
  have hx1c : ¬ c = i1 := by omega
  have hx1d : ¬ n = i := by omega
  have HCD : Hid (Blk w2.drew r L0.toArray 9) := HC2.out
  have HBD : Hid (Blk w2.drew N (splice L i [x]).toArray 9) := HB2.out
  clear hi1
  go_region_law ((refine step_copy_row (w := w2.drew) (by rfl) (.tmp 50) (.tmp 53) 30 30 (by rfl) 9 Try.underlying30 size9 N i1 (n + 1 - i1) (c - i1) ⟨r, i, none⟩ (n - i) (n - i) (by simp [Act.eval, Act.put]) (by simp [Act.eval, Act.put]) (splice L i [x]) 9 HBD.out ys (by rw [HYL.out]; have := HI1.out; exact (show n - i = Nat.min (n - i) (n + 1 - i1) from by rw [this]; exact (by show n - i = min _ _; omega))) (fun j u hj => (src_cells HCD.out HT0.out HY.out hj)) (by have := HI1.out; rw [HYL.out, length_splice _ _ _ (by rw [HLL.out]; simp; omega), HLL.out]; omega) (fun u hu => HO.out u (by rw [← HY.out] at hu; exact List.mem_of_mem_drop hu)) ?_; intro w3 hb3 hgr3; have HB3 : Hid (Blk w3 N (splice (splice L i [x]) (i + 1) ys).toArray 9) := (by rw [HI1.out] at hb3; exact hb3); have HGR3 : Hid (w2.drew.grownBy w3 (some N)) := hgr3; clear hb3 hgr3))
  go_wp2_with fail
  go_ret
  refine ⟨N, c, rfl, ⟨_, HB3.out, ?_, ?_, hc2, ?_⟩, .inr (by rw [HNN.out]; exact Nat.le_refl _), ?_⟩
  · rw [length_splice, length_splice, HLL.out]
    · rw [HLL.out]; simp; omega
    · rw [length_splice _ _ _ (by rw [HLL.out]; simp; omega), HLL.out, HYL.out]; omega
  · have := HN.out; simp; omega
  · rw [HY.out]; exact grow_take HLT.out HYL.out HN.out HLL.out hin hc1
  · have h1 := HGR1.out; have h2 := HGR2.out; have h3 := HGR3.out; have hN := HNN.out
    refine ⟨h3.os.trans (h2.os.trans h1.os), h3.tape.trans (h2.tape.trans h1.tape), h3.output.trans (h2.output.trans h1.output), Nat.le_trans h1.size (Nat.le_trans h2.size h3.size), fun q hq hne => ?_⟩
    have hqN : some q ≠ some N := by intro e; injection e with e; omega
    rw [h3.block q (show q < w2.heap.size from Nat.lt_of_lt_of_le hq (Nat.le_trans h1.size h2.size)) hqN]
    show w2.heap[q]? = _
    rw [h2.block q (Nat.lt_of_lt_of_le hq h1.size) hqN, h1.block q hq (by intro e; cases e)]

/-- slices.Insert of one element, wherever. -/
theorem ins47 (r cap i g n : Nat) (xs : List Value) (x : Value) (hn : xs.length = n) (hin : i ≤ n) (hn2 : n ≤ 2000000) (w : World) (hrow : GRow w r cap 9 xs) (hg : Blk w g #[x] 9) (hne : g ≠ r) (hone : ∀ u ∈ xs, u.oneCell' = true) (hx1 : x.oneCell' = true) :
    Calls Try.prog 47 #[.slice (some ⟨r, 0, none⟩) n cap, .int .i64 i, .slice (some ⟨g, 0, none⟩) 1 1] w fun e w' => RetIns r 9 (n + 1) (xs.take i ++ x :: xs.drop i) w e w' := by
  rcases Nat.lt_or_ge i n with h | h
  · rcases Nat.lt_or_ge n cap with h2 | h2
    · exact ins47_room r cap i g n xs x hn h h2 hn2 w hrow hg hne hone hx1
    · have : cap = n := by obtain ⟨L, _, _, h, _⟩ := hrow; omega
      subst this
      exact ins47_grow r i g cap xs x hn h hn2 w hrow hg hone hx1
  · have : i = n := by omega
    subst this
    exact ins47_end r cap g i xs x hn hn2 w hrow hg hx1
end Go.Proofs.Qxb6619794a
