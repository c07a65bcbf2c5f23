import Derived.Test.Qxb6619794aOwn
namespace Go.Proofs.Qxb6619794a
open Go.RowKit

theorem KV.congr {B : Nat} {w : World} {v : Value} {cs cs' : List Ch} (h : KV B w v cs) (he : cptrs cs' = cptrs cs) : KV B w v cs' := by
  have hl : cs'.length = cs.length := by rw [← cptrs_length, he, cptrs_length]
  rcases h with ⟨rfl, h⟩ | ⟨cb, ccap, h1, h2, h3⟩
  · exact .inl ⟨List.eq_nil_of_length_eq_zero (by simpa using hl), h⟩
  · exact .inr ⟨cb, ccap, by rw [hl]; exact h1, h2, by rw [he]; exact h3⟩

/-- The row of chunk ci has been made anew (in place or elsewhere) and is laid into the chunk. -/
theorem row_step {B kb : Nat} {cs : List Ch} {ci : Nat} {ep : Int} {sh : Bool} {w w' : World} {r' cap' : Nat} {ss' : List ByteArray} (hk : KAt B w kb cs ep sh) (hci : ci < cs.length)
    (hgr : w.grownBy w' (some cs[ci].r)) (hr : r' = cs[ci].r ∨ w.heap.size ≤ r') (hrow : RowAt w' r' cap' ss') :
    KAt B (w'.setCell ⟨cs[ci].p, 0, none⟩ (.slice (some ⟨r', 0, none⟩) ss'.length cap')) kb (cs.set ci ⟨cs[ci].p, r', cap', cs[ci].e, ss'⟩) ep sh ∧
    KFrame B w (w'.setCell ⟨cs[ci].p, 0, none⟩ (.slice (some ⟨r', 0, none⟩) ss'.length cap')) ∧
    ∀ b C, b ≠ cs[ci].r → Blk w b C 9 → Blk (w'.setCell ⟨cs[ci].p, 0, none⟩ (.slice (some ⟨r', 0, none⟩) ss'.length cap')) b C 9 := by
  obtain ⟨k1, k2, k3, k4, v, k5, k6⟩ := hk
  have hc := k2 cs[ci] (List.getElem_mem hci)
  obtain ⟨cur, hcur, _⟩ := hc.2.2.2
  have hBw : B ≤ w.heap.size := by have := hcur.lt; have := hc.2.1; omega
  have p9 : ∀ b C, b ≠ cs[ci].r → Blk w b C 9 → Blk (w'.setCell ⟨cs[ci].p, 0, none⟩ (.slice (some ⟨r', 0, none⟩) ss'.length cap')) b C 9 := fun b C hne hb =>
    (hb.grown hgr (by intro e; injection e with e; exact hne e.symm)).set_ne (hb.type_ne hc.2.2.1 (by decide)) _ _
  have pt : ∀ b C t, t ≠ 9 → t ≠ 59 → Blk w b C t → Blk (w'.setCell ⟨cs[ci].p, 0, none⟩ (.slice (some ⟨r', 0, none⟩) ss'.length cap')) b C t := fun b C t h9 h59 hb =>
    (hb.grown hgr (by intro e; injection e with e; exact hcur.type_ne hb (Ne.symm h9) e)).set_ne (hb.type_ne hc.2.2.1 h59) _ _
  have p59 : ∀ b C, b ≠ cs[ci].p → Blk w b C 59 → Blk (w'.setCell ⟨cs[ci].p, 0, none⟩ (.slice (some ⟨r', 0, none⟩) ss'.length cap')) b C 59 := fun b C hne hb =>
    (hb.grown hgr (by intro e; injection e with e; exact hcur.type_ne hb (by decide) e)).set_ne hne _ _
  have hp1 : Blk w' cs[ci].p (chVals cs[ci]) 59 := hc.2.2.1.grown hgr (by intro e; injection e with e; exact hcur.type_ne hc.2.2.1 (by decide) e)
  have hnewp : Blk (w'.setCell ⟨cs[ci].p, 0, none⟩ (.slice (some ⟨r', 0, none⟩) ss'.length cap')) cs[ci].p #[.slice (some ⟨r', 0, none⟩) ss'.length cap', .int .u64 cs[ci].e] 59 := hp1.set 0 _
  have hnewr : RowAt (w'.setCell ⟨cs[ci].p, 0, none⟩ (.slice (some ⟨r', 0, none⟩) ss'.length cap')) r' cap' ss' := hrow.imp fun C hC => hC.set_ne (hC.type_ne hp1 (by decide)) _ _
  have hBr : B ≤ r' := by
    rcases hr with h | h
    · rw [h]; exact hc.2.1
    · omega
  refine ⟨⟨k1, ?_, ?_, ?_, v, pt _ _ _ (by decide) (by decide) k5, (k6.imp fun b C => pt b C 57 (by decide) (by decide)).congr ?_⟩, ⟨?_, fun b C t h9 _ _ h59 => pt b C t h9 h59⟩, p9⟩
  · intro c hcm
    obtain ⟨j, hj, he⟩ := List.mem_iff_getElem.1 hcm
    have hj' : j < cs.length := by simpa using hj
    by_cases hji : j = ci
    · subst hji
      rw [List.getElem_set_self] at he
      subst he
      exact ⟨hc.1, hBr, hnewp, hnewr⟩
    · rw [List.getElem_set_ne (fun e => hji e.symm)] at he
      subst he
      have hd := k2 cs[j] (List.getElem_mem hj')
      refine hd.imp (fun C => p59 _ C ?_) (fun C => p9 _ C ?_)
      · intro e
        have := (List.getElem_inj (h₀ := by simpa using hj') (h₁ := by simpa using hci) k3).1 (by simpa using e)
        exact hji this
      · intro e
        have := (List.getElem_inj (h₀ := by simpa using hj') (h₁ := by simpa using hci) k4).1 (by simpa using e)
        exact hji this
  · have : (cs.set ci ⟨cs[ci].p, r', cap', cs[ci].e, ss'⟩).map Ch.p = cs.map Ch.p := by
      rw [List.map_set]
      have e : (cs.map Ch.p)[ci]'(by simpa using hci) = cs[ci].p := by simp
      conv => lhs; rw [← e]
      exact List.set_getElem_self _
    rw [this]; exact k3
  · rw [List.map_set]
    rcases hr with h | h
    · have e : (cs.map Ch.r)[ci]'(by simpa using hci) = r' := by simp [h]
      conv => arg 1; rw [← e]
      rw [List.set_getElem_self]; exact k4
    · refine nodup_set k4 (fun hin => ?_) _
      obtain ⟨c, hcm, he⟩ := List.mem_map.1 hin
      have := (k2 c hcm).2.2.2.lt; simp only at he; omega
  · rw [cptrs_set]
    have e : (cptrs cs)[ci]'(by rw [cptrs_length]; exact hci) = .pointer (some ⟨cs[ci].p, 0, none⟩) := cptrs_get hci _
    conv => lhs; rw [← e]
    exact List.set_getElem_self _
  · refine Below.setCell (p := ⟨cs[ci].p, 0, none⟩) ?_ hc.1 _
    exact (Below.refl B w).grown hgr hBw (fun k hkk => by injection hkk with hkk; rw [← hkk]; exact hc.2.1)

/-- A chunk has been laid into the array of chunks behind place i - 1. -/
theorem arr_step {B kb : Nat} {cs : List Ch} {i : Nat} {ep : Int} {sh : Bool} {w w' : World} {c : Ch} {cb cb' ccap' : Nat} {v : Value} (hk : KAt B w kb cs ep sh) (hBb : B ≤ cb) (hcb : ∃ C, Blk w cb C 57)
    (hc : ChAt B w c) (hp : c.p ∉ cs.map Ch.p) (hr : c.r ∉ cs.map Ch.r) (hkb : Blk w kb #[v, .int .u64 ep, .bool sh] 56)
    (hgr : w.grownBy w' (some cb)) (hcb' : cb' = cb ∨ w.heap.size ≤ cb') (hg : GRow w' cb' ccap' 57 ((cptrs cs).take i ++ ptr c.p :: (cptrs cs).drop i)) :
    KAt B (w'.setCell ⟨kb, 0, none⟩ (.slice (some ⟨cb', 0, none⟩) (cs.length + 1) ccap')) kb (cs.take i ++ c :: cs.drop i) ep sh ∧
    KFrame B w (w'.setCell ⟨kb, 0, none⟩ (.slice (some ⟨cb', 0, none⟩) (cs.length + 1) ccap')) ∧
    ∀ b C, Blk w b C 9 → Blk (w'.setCell ⟨kb, 0, none⟩ (.slice (some ⟨cb', 0, none⟩) (cs.length + 1) ccap')) b C 9 := by
  obtain ⟨k1, k2, k3, k4, _⟩ := hk
  obtain ⟨D, hD⟩ := hcb
  have hBw : B ≤ w.heap.size := by have := hkb.lt; omega
  have pt : ∀ b C t, t ≠ 57 → t ≠ 56 → Blk w b C t → Blk (w'.setCell ⟨kb, 0, none⟩ (.slice (some ⟨cb', 0, none⟩) (cs.length + 1) ccap')) b C t := fun b C t h7 h6 hb =>
    (hb.grown hgr (by intro e; injection e with e; exact hb.type_ne hD h7 e.symm)).set_ne (hb.type_ne hkb h6) _ _
  have hk1 : Blk w' kb #[v, .int .u64 ep, .bool sh] 56 := hkb.grown hgr (by intro e; injection e with e; exact hkb.type_ne hD (by decide) e.symm)
  have hkn : Blk (w'.setCell ⟨kb, 0, none⟩ (.slice (some ⟨cb', 0, none⟩) (cs.length + 1) ccap')) kb #[.slice (some ⟨cb', 0, none⟩) (cs.length + 1) ccap', .int .u64 ep, .bool sh] 56 := hk1.set 0 _
  have hgn : GRow (w'.setCell ⟨kb, 0, none⟩ (.slice (some ⟨cb', 0, none⟩) (cs.length + 1) ccap')) cb' ccap' 57 ((cptrs cs).take i ++ ptr c.p :: (cptrs cs).drop i) := hg.imp fun C hC => hC.set_ne (hC.type_ne hk1 (by decide)) _ _
  have perm : (cs.take i ++ c :: cs.drop i).Perm (c :: cs) := by
    have := List.perm_middle (a := c) (l₁ := cs.take i) (l₂ := cs.drop i)
    rwa [List.take_append_drop] at this
  have mem : ∀ d, d ∈ cs.take i ++ c :: cs.drop i → d = c ∨ d ∈ cs := fun d hd => by simpa using perm.mem_iff.1 hd
  refine ⟨⟨k1, ?_, ?_, ?_, _, hkn, .inr ⟨cb', ccap', ?_, ?_, ?_⟩⟩, ⟨?_, fun b C t _ h6 h7 _ => pt b C t h7 h6⟩, fun b C => pt b C 9 (by decide) (by decide)⟩
  · intro d hd
    rcases mem d hd with rfl | h
    · exact hc.imp (fun C => pt _ C 59 (by decide) (by decide)) (fun C => pt _ C 9 (by decide) (by decide))
    · exact (k2 d h).imp (fun C => pt _ C 59 (by decide) (by decide)) (fun C => pt _ C 9 (by decide) (by decide))
  · rw [(perm.map Ch.p).nodup_iff, List.map_cons, List.nodup_cons]; exact ⟨hp, k3⟩
  · rw [(perm.map Ch.r).nodup_iff, List.map_cons, List.nodup_cons]; exact ⟨hr, k4⟩
  · have : (cs.take i ++ c :: cs.drop i).length = cs.length + 1 := by rw [perm.length_eq]; simp
    rw [this]
  · rcases hcb' with h | h
    · rw [h]; exact hBb
    · omega
  · have : cptrs (cs.take i ++ c :: cs.drop i) = (cptrs cs).take i ++ ptr c.p :: (cptrs cs).drop i := by
      simp [cptrs, List.map_take, List.map_drop]
    rw [this]; exact hgn
  · refine Below.setCell (p := ⟨kb, 0, none⟩) ?_ k1 _
    exact (Below.refl B w).grown hgr hBw (fun k hkk => by injection hkk with hkk; rw [← hkk]; exact hBb)
end Go.Proofs.Qxb6619794a
