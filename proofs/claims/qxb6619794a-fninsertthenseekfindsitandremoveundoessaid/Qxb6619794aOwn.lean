import Derived.Test.Qxb6619794aKrep
namespace Go.Proofs.Qxb6619794a
open Go.RowKit

theorem nodup_set {α : Type} {l : List α} {x : α} (h : l.Nodup) (hx : x ∉ l) (i : Nat) : (l.set i x).Nodup := by
  induction l generalizing i with
  | nil => simp
  | cons a l ih =>
    rw [List.nodup_cons] at h
    simp only [List.mem_cons, not_or] at hx
    cases i with
    | zero => rw [List.set_cons_zero, List.nodup_cons]; exact ⟨hx.2, h.2⟩
    | succ i =>
      rw [List.set_cons_succ, List.nodup_cons]
      refine ⟨fun hin => ?_, ih h.2 hx.2 i⟩
      rcases List.mem_or_eq_of_mem_set hin with g | g
      · exact h.1 g
      · exact hx.1 g.symm

/-- The chunk that own hands out: the old one, or a copy of the call's own. -/
def OwnOut (w : World) (c c' : Ch) (ep : Int) (sh : Bool) : Prop :=
  c'.ss = c.ss ∧ (sh = true → c'.e = ep) ∧ (c' = c ∨ (sh = true ∧ c.e ≠ ep ∧ w.heap.size ≤ c'.r ∧ w.heap.size ≤ c'.p))
def RetOwn (B : Nat) (kb : Nat) (cs : List Ch) (ci : Nat) (c : Ch) (ep : Int) (sh : Bool) (w : World) (e : Ending) (w' : World) : Prop :=
  ∃ c', e = .returned (.slice (some ⟨c'.r, 0, none⟩) c'.ss.length c'.cap) ∧ OwnOut w c c' ep sh ∧ KAt B w' kb (cs.set ci c') ep sh ∧
    (∀ b C t, t ≠ 57 → Blk w b C t → Blk w' b C t) ∧ Below B w w'

set_option maxHeartbeats 1000000 in
theorem own_keep (B kb : Nat) (cs : List Ch) (ci : Nat) (ep : Int) (sh : Bool) (w : World) (hk : KAt B w kb cs ep sh) (hci : ci < cs.length) (hl : cs.length ≤ 2000000) (hno : sh = false ∨ cs[ci].e = ep) :
    Calls Try.prog 45 #[.pointer (some ⟨kb, 0, none⟩), .int .i64 ci] w fun e w' => RetOwn B kb cs ci cs[ci] ep sh w e w' := by
  have HK : Hid (KAt B w kb cs ep sh) := hk
  obtain ⟨cb, ccap, hB, hg, hkb⟩ := hk.arr (by omega)
  have hch := hk.2.1 cs[ci] (List.getElem_mem hci)
  have hc1 : w.cell? ⟨kb, 0, none⟩ = some (.slice (some ⟨cb, 0, none⟩) cs.length ccap) := by rw [hkb.cell]; rfl
  have hc2 : w.cell? ⟨kb, 1, none⟩ = some (.int .u64 ep) := by rw [hkb.cell]; rfl
  have hc3 : w.cell? ⟨kb, 2, none⟩ = some (.bool sh) := by rw [hkb.cell]; rfl
  have hc4 : w.cell? ⟨cb, ci, none⟩ = some (.pointer (some ⟨cs[ci].p, 0, none⟩)) := by
    rw [hg.cell (by rw [cptrs_length]; exact hci), cptrs_get hci]
  have hc5 : w.cell? ⟨cs[ci].p, 0, none⟩ = some (.slice (some ⟨cs[ci].r, 0, none⟩) cs[ci].ss.length cs[ci].cap) := by rw [hch.2.2.1.cell]; rfl
  have hc6 : w.cell? ⟨cs[ci].p, 1, none⟩ = some (.int .u64 cs[ci].e) := by rw [hch.2.2.1.cell]; rfl
  have hx1 : (ci : Int) < (cs.length : Int) := by omega
  have HFIN : Hid (∀ w', Still w w' → RetOwn B kb cs ci cs[ci] ep sh w (.returned (.slice (some ⟨cs[ci].r, 0, none⟩) cs[ci].ss.length cs[ci].cap)) w') := by
    intro w' hw
    refine ⟨cs[ci], rfl, ⟨rfl, fun hs => ?_, .inl rfl⟩, ?_, fun _ _ _ _ hb => hb.still hw, hw.below _⟩
    · rcases hno with h | h
      · rw [h] at hs; cases hs
      · exact h
    · rw [List.set_getElem_self]
      exact HK.out.imp fun _ _ _ hb => hb.still hw
  clear hk hg hkb hch
  generalize cs[ci] = c at *
  rcases hno with rfl | rfl
  · go_enter Try.func45, Try.ntmps45
    go_wp2
    go_quiet (fail)
    go_wp2
    go_ret
    exact HFIN.out _ ⟨_, rfl⟩
  · cases sh
    · go_enter Try.func45, Try.ntmps45
      go_wp2
      go_quiet (fail)
      go_wp2
      go_ret
      exact HFIN.out _ ⟨_, rfl⟩
    · go_enter Try.func45, Try.ntmps45
      go_wp2
      go_quiet (fail)
      go_wp2
      go_ret
      exact HFIN.out _ ⟨_, rfl⟩
theorem cptrs_set (cs : List Ch) (i : Nat) (c : Ch) : cptrs (cs.set i c) = (cptrs cs).set i (.pointer (some ⟨c.p, 0, none⟩)) := by
  unfold cptrs; rw [List.map_set]; rfl

/-- The chunk ci has been replaced by a copy. -/
theorem own_step {B kb : Nat} {cs : List Ch} {ci : Nat} {ep : Int} {w wq w1 : World} {r' cap' cb ccap : Nat} (hk : KAt B w kb cs ep true) (hci : ci < cs.length) (hB : B ≤ cb) (hg : GRow w cb ccap 57 (cptrs cs))
    (hkb : Blk w kb #[.slice (some ⟨cb, 0, none⟩) cs.length ccap, .int .u64 ep, .bool true] 56) (hne : cs[ci].e ≠ ep) (hs : Still w wq) (hr' : wq.heap.size ≤ r') (hrow : RowAt w1 r' cap' cs[ci].ss) (hb1 : Below wq.heap.size wq w1) :
    RetOwn B kb cs ci cs[ci] ep true w (.returned (.slice (some ⟨r', 0, none⟩) cs[ci].ss.length cap'))
      ((w1.alloc (.cells #[.slice (some ⟨r', 0, none⟩) cs[ci].ss.length cap', .int .u64 ep] 59)).setCell ⟨cb, ci, none⟩ (.pointer (some ⟨w1.heap.size, 0, none⟩))) := by
  have hz : wq.heap.size = w.heap.size := by rw [hs.heap]
  rw [hz] at hr' hb1
  have b1 : Below w.heap.size w w1 := (hs.below _).trans hb1
  have hsz := b1.size
  have hcb := hg.lt
  have hBw : B ≤ w.heap.size := by have := hg.lt; omega
  -- every old block of another kind
  have pass : ∀ b C t, t ≠ 57 → Blk w b C t → Blk ((w1.alloc (.cells #[.slice (some ⟨r', 0, none⟩) cs[ci].ss.length cap', .int .u64 ep] 59)).setCell ⟨cb, ci, none⟩ (.pointer (some ⟨w1.heap.size, 0, none⟩))) b C t := by
    intro b C t ht hb
    obtain ⟨D, hD⟩ := hg.blk
    exact ((hb.below b1 hb.lt).alloc _).set_ne (hb.type_ne hD ht) _ _
  have hnewp : Blk ((w1.alloc (.cells #[.slice (some ⟨r', 0, none⟩) cs[ci].ss.length cap', .int .u64 ep] 59)).setCell ⟨cb, ci, none⟩ (.pointer (some ⟨w1.heap.size, 0, none⟩))) w1.heap.size #[.slice (some ⟨r', 0, none⟩) cs[ci].ss.length cap', .int .u64 ep] 59 :=
    (Blk.new w1 _ _).set_ne (by omega) _ _
  have hnewr : RowAt ((w1.alloc (.cells #[.slice (some ⟨r', 0, none⟩) cs[ci].ss.length cap', .int .u64 ep] 59)).setCell ⟨cb, ci, none⟩ (.pointer (some ⟨w1.heap.size, 0, none⟩))) r' cap' cs[ci].ss :=
    hrow.imp fun C hC => (hC.alloc _).set_ne (by omega) _ _
  have hgnew : GRow ((w1.alloc (.cells #[.slice (some ⟨r', 0, none⟩) cs[ci].ss.length cap', .int .u64 ep] 59)).setCell ⟨cb, ci, none⟩ (.pointer (some ⟨w1.heap.size, 0, none⟩))) cb ccap 57 ((cptrs cs).set ci (.pointer (some ⟨w1.heap.size, 0, none⟩))) :=
    GRow.set (w := w1.alloc _) (hg.imp fun C hC => (hC.below b1 hcb).alloc _) ci _
  obtain ⟨k1, k2, k3, k4, _⟩ := hk
  have fresh : ∀ c ∈ cs, c.p < w.heap.size ∧ c.r < w.heap.size := fun c hc => ⟨(k2 c hc).2.2.1.lt, (k2 c hc).2.2.2.lt⟩
  refine ⟨⟨w1.heap.size, r', cap', ep, cs[ci].ss⟩, rfl, ⟨rfl, fun _ => rfl, .inr ⟨rfl, hne, hr', hsz⟩⟩, ⟨k1, ?_, ?_, ?_, _, pass _ _ _ (by decide) hkb, .inr ⟨cb, ccap, by simp, hB, ?_⟩⟩, pass, ?_⟩
  · intro c hc
    rcases List.mem_or_eq_of_mem_set hc with h | h
    · exact (k2 c h).imp (fun C => pass _ _ _ (by decide)) (fun C => pass _ _ _ (by decide))
    · subst h
      exact ⟨by show B ≤ w1.heap.size; omega, by show B ≤ r'; omega, hnewp, hnewr⟩
  · rw [List.map_set]
    refine nodup_set k3 (fun hin => ?_) _
    obtain ⟨c, hc, he⟩ := List.mem_map.1 hin
    have := (fresh c hc).1; simp only at he; omega
  · rw [List.map_set]
    refine nodup_set k4 (fun hin => ?_) _
    obtain ⟨c, hc, he⟩ := List.mem_map.1 hin
    have := (fresh c hc).2; simp only at he; omega
  · rw [cptrs_set]; exact hgnew
  · exact Below.setCell (p := ⟨cb, ci, none⟩) ((b1.mono hBw).alloc (by omega) _) hB _

set_option maxHeartbeats 1000000 in
set_option maxRecDepth 100000 in
theorem own_copy (B kb : Nat) (cs : List Ch) (ci : Nat) (ep : Int) (w : World) (hk : KAt B w kb cs ep true) (hci : ci < cs.length) (hl : cs.length ≤ 2000000) (hne : cs[ci].e ≠ ep) (hss : 0 < cs[ci].ss.length) (hsl : cs[ci].ss.length ≤ 2000000) :
    Calls Try.prog 45 #[.pointer (some ⟨kb, 0, none⟩), .int .i64 ci] w fun e w' => RetOwn B kb cs ci cs[ci] ep true w e w' := by
  have HK : Hid (KAt B w kb cs ep true) := hk
  obtain ⟨cb, ccap, hB, hg, hkb⟩ := hk.arr (by omega)
  have hch := hk.2.1 cs[ci] (List.getElem_mem hci)
  have hc1 : w.cell? ⟨kb, 0, none⟩ = some (.slice (some ⟨cb, 0, none⟩) cs.length ccap) := by rw [hkb.cell]; rfl
  have hc2 : w.cell? ⟨kb, 1, none⟩ = some (.int .u64 ep) := by rw [hkb.cell]; rfl
  have hc3 : w.cell? ⟨kb, 2, none⟩ = some (.bool true) := by rw [hkb.cell]; rfl
  have hc4 : w.cell? ⟨cb, ci, none⟩ = some (.pointer (some ⟨cs[ci].p, 0, none⟩)) := by
    rw [hg.cell (by rw [cptrs_length]; exact hci), cptrs_get hci]
  have hc5 : w.cell? ⟨cs[ci].p, 0, none⟩ = some (.slice (some ⟨cs[ci].r, 0, none⟩) cs[ci].ss.length cs[ci].cap) := by rw [hch.2.2.1.cell]; rfl
  have hc6 : w.cell? ⟨cs[ci].p, 1, none⟩ = some (.int .u64 cs[ci].e) := by rw [hch.2.2.1.cell]; rfl
  have hx1 : (ci : Int) < (cs.length : Int) := by omega
  have hbn : (cs[ci].e != ep) = true := by rw [bne_iff_ne]; exact hne
  have HST : Hid (StrsAt w (some ⟨cs[ci].r, 0, none⟩) cs[ci].ss) := hch.2.2.2.strs
  have HG : Hid (GRow w cb ccap 57 (cptrs cs)) := hg
  have HKB : Hid (Blk w kb #[.slice (some ⟨cb, 0, none⟩) cs.length ccap, .int .u64 ep, .bool true] 56) := hkb
  have hl1 : kb < w.heap.size := hkb.lt
  have hl2 : cs[ci].p < w.heap.size := hch.2.2.1.lt
  have hl3 : cb < w.heap.size := hg.lt
  have HNE : Hid (cs[ci].e ≠ ep) := hne
  obtain ⟨c, hc⟩ : ∃ c, cs[ci] = c := ⟨_, rfl⟩
  have HC : Hid (cs[ci] = c) := hc
  rw [hc] at hc4 hc5 hc6 hbn HST HNE hl2 hss hsl
  rw [hc]
  clear hk hg hkb hch hne hc
  go_enter Try.func45, Try.ntmps45
  go_wp2
  go_quiet (fail)
  go_wp2
  generalize hwq : w.drewN nq = wq
  have hs : Still w wq := ⟨nq, hwq.symm⟩
  clear hwq
  have hq1 := hs.cell hc1
  have hq2 := hs.cell hc2
  have hq4 := hs.cell hc4
  have hq5 := hs.cell hc5
  have HSQ : Hid (StrsAt wq (some ⟨c.r, 0, none⟩) c.ss) := HST.out.still hs
  have hz : wq.heap.size = w.heap.size := by rw [hs.heap]
  have HZ : Hid (wq.heap.size = w.heap.size) := hz
  clear hc1 hc2 hc3 hc4 hc5 hc6 hz
  go_region_held3 (fun w' => w'.cell? ⟨c.p, 0, none⟩ = some (.slice (some ⟨c.r, 0, none⟩) c.ss.length c.cap) ∧ w'.cell? ⟨kb, 1, none⟩ = some (.int .u64 ep))
    (first | (exact ⟨cell_below (w := wq.drew) hq5 hb1, cell_below (w := wq.drew) hq2 hb1⟩) | (exact ⟨cell_below (w := wq.drew) hq5 (hb1.alloc hb1.size _), cell_below (w := wq.drew) hq2 (hb1.alloc hb1.size _)⟩) | go_keep)
    (first | (go_at_call 48; refine (clone48 c.r 0 c.ss.length c.cap c.ss hss hsl rfl _ ?_).mono ?_; exact HSQ.out; rintro e w1 ⟨r', cap', rfl, hr', hrow, hb1⟩))
  have hz := HZ.out
  have hsz := hb1.size
  have hlw : w.heap.size ≤ w1.heap.size := by
    have : wq.heap.size ≤ w1.heap.size := hsz
    omega
  have hd1 : w1.cell? ⟨kb, 0, none⟩ = some (.slice (some ⟨cb, 0, none⟩) cs.length ccap) := cell_below (w := wq.drew) hq1 hb1
  have hd4 : w1.cell? ⟨cb, ci, none⟩ = some (.pointer (some ⟨c.p, 0, none⟩)) := cell_below (w := wq.drew) hq4 hb1
  have hkl : kb < w1.heap.size := by omega
  have hcl : cb < w1.heap.size := by omega
  have hne1 : w1.heap.size ≠ cb := by omega
  have hne2 : cb ≠ w1.heap.size := by omega
  have hdf : w1.frozen? ⟨cb, ci, none⟩ = false := by
    have : wq.drew.frozen? ⟨cb, ci, none⟩ = false := by
      show wq.frozen? _ = false
      obtain ⟨n, hn⟩ := hs
      rw [hn]; exact HG.out.free ci
    rw [hb1.frozen (p := ⟨cb, ci, none⟩) (by show cb < wq.heap.size; omega)]; exact this
  have hfa : ∀ o : Obj, (w1.alloc o).frozen? ⟨cb, ci, none⟩ = false := fun o => frozen_alloc hdf hcl o
  have HFIN : Hid (RetOwn B kb cs ci c ep true w (.returned (.slice (some ⟨r', 0, none⟩) c.ss.length cap')) ((w1.alloc (.cells #[.slice (some ⟨r', 0, none⟩) c.ss.length cap', .int .u64 ep] 59)).setCell ⟨cb, ci, none⟩ (.pointer (some ⟨w1.heap.size, 0, none⟩)))) := by
    have h := HC.out
    subst h
    exact own_step HK.out hci hB HG.out HKB.out HNE.out (hs.drew) hr' hrow hb1
  clear hz hsz hq1 hq2 hq4 hq5 hb1 hrow hr'
  go_wp2
  go_ret
  rw [← World.setCell_alloc_past _ cb ci _ hcl]
  exact HFIN.out
theorem own_any (B kb : Nat) (cs : List Ch) (ci : Nat) (ep : Int) (sh : Bool) (w : World) (hk : KAt B w kb cs ep sh) (hci : ci < cs.length) (hl : cs.length ≤ 2000000) (hss : 0 < cs[ci].ss.length) (hsl : cs[ci].ss.length ≤ 2000000) :
    Calls Try.prog 45 #[.pointer (some ⟨kb, 0, none⟩), .int .i64 ci] w fun e w' => RetOwn B kb cs ci cs[ci] ep sh w e w' := by
  cases sh
  · exact own_keep B kb cs ci ep false w hk hci hl (.inl rfl)
  · by_cases he : cs[ci].e = ep
    · exact own_keep B kb cs ci ep true w hk hci hl (.inr he)
    · exact own_copy B kb cs ci ep w hk hci hl he hss hsl
end Go.Proofs.Qxb6619794a
