import Derived.Test.Qxb6619794aRem
namespace Go.Proofs.Qxb6619794a
open Go.RowKit

theorem nodup_del {l : List Nat} (h : l.Nodup) (i : Nat) : (l.take i ++ l.drop (i + 1)).Nodup := by
  rw [← List.eraseIdx_eq_take_drop_succ]; exact h.sublist (List.eraseIdx_sublist _ _)
theorem mem_del {α : Type} {l : List α} {i : Nat} {x : α} (h : x ∈ l.take i ++ l.drop (i + 1)) : ∃ j, ∃ hj : j < l.length, j ≠ i ∧ l[j] = x := by
  rcases List.mem_append.1 h with g | g
  · obtain ⟨j, hj, hji, e⟩ := mem_take_get g; exact ⟨j, hj, by omega, e⟩
  · obtain ⟨j, hj, hji, e⟩ := mem_drop_get g; exact ⟨j, hj, by omega, e⟩
theorem others_del (es : List Int) (ep : Int) (i : Nat) : others (es.take i ++ es.drop (i + 1)) ep ≤ others es ep := by
  unfold others
  rw [← List.eraseIdx_eq_take_drop_succ]
  exact ((List.eraseIdx_sublist es i).filter _).length_le

/-- Chunk i has been taken out of the array of chunks. -/
theorem arr_del {B kb : Nat} {cs : List Ch} {i n1 : Nat} {ep : Int} {sh : Bool} {w w' : World} {cb ccap : Nat} {v : Value} (k1 : B ≤ kb) (hi : i < cs.length) (hn1 : cs.length = n1 + 1) (k2 : ∀ j (h : j < cs.length), j ≠ i → ChAt B w cs[j]) (k3 : (cs.map Ch.p).Nodup) (k4 : (cs.map Ch.r).Nodup)
    (hBb : B ≤ cb) (hcb : ∃ C, Blk w cb C 57) (hkb : Blk w kb #[v, .int .u64 ep, .bool sh] 56)
    (hgr : w.grownBy w' (some cb)) (hg : GRow w' cb ccap 57 ((cptrs cs).take i ++ (cptrs cs).drop (i + 1))) :
    KAt B (w'.setCell ⟨kb, 0, none⟩ (.slice (some ⟨cb, 0, none⟩) n1 ccap)) kb (cs.take i ++ cs.drop (i + 1)) ep sh ∧
    KFrame B w (w'.setCell ⟨kb, 0, none⟩ (.slice (some ⟨cb, 0, none⟩) n1 ccap)) ∧
    ∀ b C, Blk w b C 9 → Blk (w'.setCell ⟨kb, 0, none⟩ (.slice (some ⟨cb, 0, none⟩) n1 ccap)) b C 9 := by
  obtain ⟨D, hD⟩ := hcb
  have hBw : B ≤ w.heap.size := by have := hkb.lt; omega
  have pt : ∀ b C t, t ≠ 57 → t ≠ 56 → Blk w b C t → Blk (w'.setCell ⟨kb, 0, none⟩ (.slice (some ⟨cb, 0, none⟩) n1 ccap)) b C t := fun b C t h7 h6 hb =>
    (hb.grown hgr (by intro e; injection e with e; exact hb.type_ne hD h7 e.symm)).set_ne (hb.type_ne hkb h6) _ _
  have hk1 : Blk w' kb #[v, .int .u64 ep, .bool sh] 56 := hkb.grown hgr (by intro e; injection e with e; exact hkb.type_ne hD (by decide) e.symm)
  have hkn : Blk (w'.setCell ⟨kb, 0, none⟩ (.slice (some ⟨cb, 0, none⟩) n1 ccap)) kb #[.slice (some ⟨cb, 0, none⟩) n1 ccap, .int .u64 ep, .bool sh] 56 := hk1.set 0 _
  have hgn : GRow (w'.setCell ⟨kb, 0, none⟩ (.slice (some ⟨cb, 0, none⟩) n1 ccap)) cb ccap 57 ((cptrs cs).take i ++ (cptrs cs).drop (i + 1)) := hg.imp fun C hC => hC.set_ne (hC.type_ne hk1 (by decide)) _ _
  refine ⟨⟨k1, ?_, ?_, ?_, _, hkn, .inr ⟨cb, ccap, ?_, hBb, ?_⟩⟩, ⟨?_, fun b C t _ h6 h7 _ => pt b C t h7 h6⟩, fun b C => pt b C 9 (by decide) (by decide)⟩
  · intro d hd
    obtain ⟨j, hj, hji, rfl⟩ := mem_del hd
    exact (k2 j hj hji).imp (fun C => pt _ C 59 (by decide) (by decide)) (fun C => pt _ C 9 (by decide) (by decide))
  · rw [List.map_append, List.map_take, List.map_drop]; exact nodup_del k3 i
  · rw [List.map_append, List.map_take, List.map_drop]; exact nodup_del k4 i
  · have : (cs.take i ++ cs.drop (i + 1)).length = n1 := by rw [List.length_append, List.length_take, List.length_drop]; omega
    rw [this]
  · have : cptrs (cs.take i ++ cs.drop (i + 1)) = (cptrs cs).take i ++ (cptrs cs).drop (i + 1) := by
      simp [cptrs, List.map_take, List.map_drop]
    rw [this]; exact hgn
  · refine Below.setCell (p := ⟨kb, 0, none⟩) ?_ k1 _
    exact (Below.refl B w).grown hgr hBw (fun k hkk => by injection hkk with hkk; rw [← hkk]; exact hBb)

theorem remAt_vals (ss : List ByteArray) (key : ByteArray) : (ss.map Value.string).take (below ss key) ++ (ss.map Value.string).drop (below ss key + 1) = (remAt ss key).map Value.string := by
  simp [remAt, List.map_take, List.map_drop]

set_option maxHeartbeats 4000000 in
set_option maxRecDepth 100000 in
theorem remove_one (B kb : Nat) (cs : List Ch) (key : ByteArray) (ep : Int) (sh : Bool) (w : World) (hk : KAt B w kb cs ep sh) (hwf : WF (cs.map Ch.ss)) (hl : cs.length ≤ 2000000)
    (ci : Nat) (hcx : chunkIx (cs.map Ch.ss) key = ci) (hci : ci < cs.length) (hhas : hasB cs[ci].ss key = true) (hbel : below cs[ci].ss key < cs[ci].ss.length) (h1 : cs[ci].ss.length = 1) :
    Calls Try.prog 37 #[.pointer (some ⟨kb, 0, none⟩), .string key] w fun e w' => RetK B kb cs ((cs.map Ch.ss).take ci ++ (cs.map Ch.ss).drop (ci + 1)) ep sh w e w' := by
  have HK : Hid (KAt B w kb cs ep sh) := hk
  have HWF : Hid (WF (cs.map Ch.ss)) := hwf
  have HCX : Hid (chunkIx (cs.map Ch.ss) key = ci) := hcx
  obtain ⟨cb0, ccap0, hB0, hg0, hkb0⟩ := hk.arr (by omega)
  have hc1 : w.cell? ⟨kb, 0, none⟩ = some (.slice (some ⟨cb0, 0, none⟩) cs.length ccap0) := by rw [hkb0.cell]; rfl
  have hch0 := hk.2.1 cs[ci] (List.getElem_mem hci)
  have hc4 : w.cell? ⟨cb0, ci, none⟩ = some (.pointer (some ⟨cs[ci].p, 0, none⟩)) := by
    rw [hg0.cell (by rw [cptrs_length]; exact hci), cptrs_get hci]
  have hc5 : w.cell? ⟨cs[ci].p, 0, none⟩ = some (.slice (some ⟨cs[ci].r, 0, none⟩) cs[ci].ss.length cs[ci].cap) := by rw [hch0.2.2.1.cell]; rfl
  have HS0 : Hid (StrsAt w (some ⟨cs[ci].r, 0, none⟩) cs[ci].ss) := hch0.2.2.2.strs
  have hx1 : (ci : Int) < (cs.length : Int) := by omega
  have hok := hwf ci (by simpa using hci)
  have HASC : Hid (Asc cs[ci].ss) := by have := hok.2.2.1; unfold Hid; simpa using this
  have HHAS : Hid (hasB cs[ci].ss key = true) := hhas
  have hpos : 0 < cs[ci].ss.length := by omega
  have HL1 : Hid (cs[ci].ss.length = 1) := h1
  have hb0 : below cs[ci].ss key = 0 := by omega
  have HB0 : Hid (below cs[ci].ss key = 0) := hb0
  have hsl : cs[ci].ss.length ≤ 512 := by omega
  have HBIN : Hid (Calls Try.prog 43 #[.slice (some ⟨cs[ci].r, 0, none⟩) cs[ci].ss.length cs[ci].cap, .string key] w fun e w' => e = .returned (.tuple #[.int .i64 0, .bool true]) ∧ w' = w) := by
    have := bin43 (some ⟨cs[ci].r, 0, none⟩) cs[ci].cap cs[ci].ss key (by omega) HASC.out w HS0.out
    rw [hb0, hhas] at this; exact this
  have HOWN : Hid (Calls Try.prog 45 #[.pointer (some ⟨kb, 0, none⟩), .int .i64 ci] w fun e w' => RetOwn B kb cs ci cs[ci] ep sh w e w') := own_any B kb cs ci ep sh w HK.out hci hl hpos (by omega)
  clear hk hwf hcx hg0 hkb0 hok hch0 hhas hbel h1 hb0
  go_enter Try.func37, Try.ntmps37
  go_wp2_with fail
  refine (chunkOf_any kb (cs.map Ch.ss) key (by simpa using hl) HWF.out w HK.out.kview).mono ?_
  rintro e w' ⟨rfl, hww⟩; subst w'
  rw [HCX.out]
  go_wp2_with fail
  refine Calls.mono HBIN.out ?_
  rintro e w' ⟨rfl, hww⟩; subst w'
  go_wp2_with fail
  refine Calls.mono HOWN.out ?_
  rintro e w2 ⟨c, rfl, hout, hk2, hpass, hb2⟩
  have HOUT : Hid (OwnOut w cs[ci] c ep sh) := hout
  have HK2 : Hid (KAt B w2 kb (cs.set ci c) ep sh) := hk2
  have HPASS : Hid (∀ b C t, t ≠ 57 → Blk w b C t → Blk w2 b C t) := hpass
  have hcss : c.ss = cs[ci].ss := hout.1
  have HCSS : Hid (c.ss = cs[ci].ss) := hcss
  have hcl : c.ss.length = 1 := by rw [hcss]; exact HL1.out
  have hch : ChAt B w2 c := by
    have := hk2.2.1 ((cs.set ci c)[ci]'(by simpa using hci)) (List.getElem_mem _)
    rwa [List.getElem_set_self] at this
  have HCH : Hid (ChAt B w2 c) := hch
  rw [hcl]
  have HCL : Hid (c.ss.length = 1) := hcl
  clear hout hk2 hpass hcss hch hcl
  go_wp2_with fail
  refine (del44 c.r c.cap 1 0 1 0 (c.ss.map Value.string) (by rw [List.length_map]; exact HCL.out) rfl rfl (by omega) (fun u hu => by simp at hu; obtain ⟨x, _, rfl⟩ := hu; rfl) w2 HCH.out.2.2.2.grow).mono ?_
  rintro e w4 ⟨rfl, -, hgr4⟩
  have HGR4 : Hid (w2.grownBy w4 (some c.r)) := hgr4
  obtain ⟨cb, ccap, hBc, hgc, hkbc⟩ := HK2.out.arr (by rw [List.length_set]; omega)
  rw [List.length_set] at hkbc
  obtain ⟨cur, hcur, _⟩ := HCH.out.2.2.2
  have pass4 : ∀ b C t, t ≠ 9 → Blk w2 b C t → Blk w4 b C t := fun b C t ht hb => hb.grown HGR4.out (by intro e; injection e with e; exact hcur.type_ne hb (Ne.symm ht) e)
  have HKB4 : Hid (Blk w4 kb #[.slice (some ⟨cb, 0, none⟩) cs.length ccap, .int .u64 ep, .bool sh] 56) := pass4 _ _ _ (by decide) hkbc
  have HG4 : Hid (GRow w4 cb ccap 57 (cptrs (cs.set ci c))) := hgc.imp fun C hC => pass4 _ _ _ (by decide) hC
  have hd1 : w4.cell? ⟨kb, 0, none⟩ = some (.slice (some ⟨cb, 0, none⟩) cs.length ccap) := by rw [HKB4.out.cell]; rfl
  obtain ⟨ci1, hci1⟩ : ∃ ci1, ci1 = ci + 1 := ⟨_, rfl⟩
  have HCI1 : Hid (ci1 = ci + 1) := hci1
  have hwci : IntKind.i64.wrap ((ci : Int) + 1) = (ci1 : Int) := by rw [← wrap_nat ci1 (by omega), hci1]; congr 1
  obtain ⟨n1, hn1⟩ : ∃ n1, cs.length = n1 + 1 := ⟨cs.length - 1, by omega⟩
  have HN1 : Hid (cs.length = n1 + 1) := hn1
  have HCPL : Hid ((cptrs (cs.set ci c)).length = cs.length) := by unfold Hid; rw [cptrs_length, List.length_set]
  have HALIVE : Hid (∀ j (h : j < (cs.set ci c).length), j ≠ ci → ChAt B w4 (cs.set ci c)[j]) := by
    intro j h hji
    have hd := HK2.out.2.1 _ (List.getElem_mem h)
    refine hd.imp (fun C hC => pass4 _ _ _ (by decide) hC) (fun C hC => hC.grown HGR4.out ?_)
    intro e; injection e with e
    have hci2 : ci < (cs.set ci c).length := by simpa using hci
    have hset : (cs.set ci c)[ci]'hci2 = c := List.getElem_set_self _
    have := (List.getElem_inj (h₀ := by simpa using h) (h₁ := by simpa using hci2) HK2.out.2.2.2.1).1 (by rw [List.getElem_map, List.getElem_map, hset]; exact e.symm)
    exact hji this
  clear hgr4 hgc hkbc hcur pass4
  have H46 : Hid (Calls Try.prog 46 #[.slice (some ⟨cb, 0, none⟩) cs.length ccap, .int .i64 ci, .int .i64 ci1] w4 fun e w' => RetDel cb n1 ccap 57 ((cptrs (cs.set ci c)).take ci ++ (cptrs (cs.set ci c)).drop (ci + 1)) w4 e w') :=
    del46 cb ccap cs.length ci ci1 n1 (cptrs (cs.set ci c)) HCPL.out hci1 hn1 hci (fun u hu => by unfold cptrs at hu; obtain ⟨x, _, rfl⟩ := List.mem_map.1 hu; rfl) w4 HG4.out
  clear hci1 hn1
  go_wp2_with fail
  refine Calls.mono H46.out ?_
  rintro e w5 ⟨rfl, hg5, hgr5⟩
  have HG5 : Hid (GRow w5 cb ccap 57 ((cptrs (cs.set ci c)).take ci ++ (cptrs (cs.set ci c)).drop (ci + 1))) := hg5
  have HGR5 : Hid (w4.grownBy w5 (some cb)) := hgr5
  obtain ⟨D, hD⟩ := HG4.out.blk
  have hkb5 : Blk w5 kb #[.slice (some ⟨cb, 0, none⟩) cs.length ccap, .int .u64 ep, .bool sh] 56 := HKB4.out.grown hgr5 (by intro e; injection e with e; exact HKB4.out.type_ne hD (by decide) e.symm)
  have he1 : w5.cell? ⟨kb, 0, none⟩ = some (.slice (some ⟨cb, 0, none⟩) cs.length ccap) := by rw [hkb5.cell]; rfl
  have he2 : w5.frozen? ⟨kb, 0, none⟩ = false := hkb5.free 0
  clear hg5 hgr5 hkb5 hD
  go_wp2_with fail
  go_end0
  obtain ⟨hkF, hfr, hp9⟩ := arr_del (cs := cs.set ci c) (i := ci) HK.out.1 (by simpa using hci) (by rw [List.length_set]; exact HN1.out) HALIVE.out HK2.out.2.2.1 HK2.out.2.2.2.1 hBc HG4.out.blk HKB4.out HGR5.out HG5.out
  have hBw2 : B ≤ w2.heap.size := by have := HCH.out.2.1; have := HCH.out.2.2.2.lt; omega
  obtain ⟨cur, hcur, _⟩ := HCH.out.2.2.2
  have hfr2 : KFrame B w w2 := ⟨hb2, fun b C t _ _ h7 _ hb => HPASS.out b C t h7 hb⟩
  have hfr4 : KFrame B w2 w4 := ⟨(Below.refl B w2).grown HGR4.out hBw2 (fun k hkk => by injection hkk with hkk; rw [← hkk]; exact HCH.out.2.1), fun b C t h9 _ _ _ hb => hb.grown HGR4.out (by intro e; injection e with e; exact hcur.type_ne hb (Ne.symm h9) e)⟩
  have eset : ∀ {α : Type} (f : Ch → α), ((cs.set ci c).take ci ++ (cs.set ci c).drop (ci + 1)).map f = (cs.map f).take ci ++ (cs.map f).drop (ci + 1) := by
    intro α f
    rw [List.take_set_of_le (Nat.le_refl _), List.drop_set_of_lt (by omega), List.map_append, List.map_take, List.map_drop]
  refine ⟨rfl, _, hkF, eset _, ?_, (hfr2.trans hfr4).trans hfr, ?_⟩
  · rw [eset]; exact others_del _ _ _
  · intro hs d hd he C hC
    refine hp9 _ C ((HPASS.out _ _ _ (by decide) hC).grown HGR4.out ?_)
    intro e; injection e with e
    exact shared_ne HK.out hci HOUT.out hs hd he e.symm
end Go.Proofs.Qxb6619794a
