import Derived.Test.Qxb6619498aCst
import Derived.Deep.Cut
import Derived.Deep.CutRange
import Derived.Deep.RegionHeld3
namespace Go.Proofs.Qxb6619498a
open Go.RowKit

/-- The second loop: the counts of k1, the mosts of k2 of the touched indexes done. -/
structure PSt (L : Nat) (w0 w : World) (wsb kb sz : Nat) (hb H width block mb : Nat) (C : Nat → Nat) (T : List Nat) (tv : Value) (k1 k2 : Nat) : Prop where
  ws : Blk w wsb (wsArr hb H width block kb mb tv) 94
  cn : Blk w kb (wordsOf sz fun i => if i ∈ T.take k1 then 0 else C i) 54
  own : w.ownsRow L 3 1 tv T.length (T.map iv)
  ms : Blk w mb (intsOf (block * 2) fun x => if x % 2 = 0 then (mosts width C (T.take k2) (x / 2)).1 else (mosts width C (T.take k2) (x / 2)).2) 102
  keep : ∀ b D t, t ≠ 94 → t ≠ 3 → b ≠ kb → b ≠ mb → Blk w0 b D t → Blk w b D t
  bel : Below L w0 w
  lowW : L ≤ wsb
  lowK : L ≤ kb
  lowM : L ≤ mb

section
variable {L : Nat} {w0 w : World} {wsb kb sz hb H width block mb : Nat} {C : Nat → Nat} {T : List Nat} {tv : Value} {k k1 k2 : Nat}
theorem PSt.still {X : World} (h : PSt L w0 w wsb kb sz hb H width block mb C T tv k1 k2) (hX : Still w X) : PSt L w0 X wsb kb sz hb H width block mb C T tv k1 k2 :=
  ⟨h.ws.still hX, h.cn.still hX, own_keep h.own fun _ _ _ g => g.still hX, h.ms.still hX, fun b D t h1 h2 h3 h4 h5 => (h.keep b D t h1 h2 h3 h4 h5).still hX, by obtain ⟨q, rfl⟩ := hX; exact below_drewN h.bel _, h.lowW, h.lowK, h.lowM⟩
theorem PSt.zero {i : Nat} (h : PSt L w0 w wsb kb sz hb H width block mb C T tv k k2) (hT : ∀ x, x ∈ T.take (k + 1) ↔ x ∈ T.take k ∨ x = i) :
    PSt L w0 (w.setCell ⟨kb, i, none⟩ (.int .u32 0)) wsb kb sz hb H width block mb C T tv (k + 1) k2 := by
  refine ⟨h.ws.set_ne (h.ws.type_ne h.cn (by decide)) _ _, ?_, own_set_ne h.own (own_ne h.own h.cn (by decide)) _ _, h.ms.set_ne (h.ms.type_ne h.cn (by decide)) _ _, fun b D t h1 h2 h3 h4 h5 => (h.keep b D t h1 h2 h3 h4 h5).set_ne h3 _ _, h.bel.setCell h.lowK _, h.lowW, h.lowK, h.lowM⟩
  have := h.cn.set i (.int .u32 ((0 : Nat) : Int))
  rw [wordsOf_set] at this
  rw [wordsOf_congr (g := fun j => if j = i then 0 else if j ∈ T.take k then 0 else C j)]
  · exact this
  · intro j _
    by_cases h1 : j = i
    · rw [if_pos ((hT j).2 (.inr h1)), if_pos h1]
    · rw [if_neg h1]
      by_cases h2 : j ∈ T.take k
      · rw [if_pos ((hT j).2 (.inl h2)), if_pos h2]
      · rw [if_neg h2, if_neg (fun h => by rcases (hT j).1 h with g | g <;> contradiction)]
theorem PSt.same (h : PSt L w0 w wsb kb sz hb H width block mb C T tv k1 k) (hm : ∀ b, mosts width C (T.take (k + 1)) b = mosts width C (T.take k) b) : PSt L w0 w wsb kb sz hb H width block mb C T tv k1 (k + 1) :=
  ⟨h.ws, h.cn, h.own, by simp only [hm]; exact h.ms, h.keep, h.bel, h.lowW, h.lowK, h.lowM⟩
theorem PSt.up {bq x y : Nat} (h : PSt L w0 w wsb kb sz hb H width block mb C T tv k1 k) (hm : ∀ b, mosts width C (T.take (k + 1)) b = if bq = b then (x, y) else mosts width C (T.take k) b) :
    PSt L w0 ((w.setCell ⟨mb, bq * 2, none⟩ (.int .i64 (x : Int))).setCell ⟨mb, bq * 2 + 1, none⟩ (.int .i64 (y : Int))) wsb kb sz hb H width block mb C T tv k1 (k + 1) := by
  have n1 := h.ws.type_ne h.ms (by decide)
  have n2 := h.cn.type_ne h.ms (by decide)
  refine ⟨(h.ws.set_ne n1 _ _).set_ne n1 _ _, (h.cn.set_ne n2 _ _).set_ne n2 _ _, ?_, ?_, fun b D t h1 h2 h3 h4 h5 => ((h.keep b D t h1 h2 h3 h4 h5).set_ne h4 _ _).set_ne h4 _ _, (h.bel.setCell h.lowM _).setCell h.lowM _, h.lowW, h.lowK, h.lowM⟩
  · have h1 := own_set_ne h.own (own_ne h.own h.ms (by decide)) (bq * 2) (.int .i64 (x : Int))
    have h2 : Blk (w.setCell ⟨mb, bq * 2, none⟩ (.int .i64 (x : Int))) mb _ 102 := h.ms.set _ _
    exact own_set_ne h1 (own_ne h1 h2 (by decide)) _ _
  · have := (h.ms.set (bq * 2) (.int .i64 (x : Int))).set (bq * 2 + 1) (.int .i64 (y : Int))
    rw [intsOf_set, intsOf_set] at this
    rw [intsOf_congr]
    · exact this
    · intro j _
      simp only [hm]
      by_cases h1 : j = bq * 2 + 1
      · rw [if_pos h1, if_neg (by omega), if_pos (by omega)]
      · rw [if_neg h1]
        by_cases h2 : j = bq * 2
        · rw [if_pos h2, if_pos (by omega), if_pos (by omega)]
        · rw [if_neg h2]
          have : ¬ bq = j / 2 := by omega
          simp only [this, if_false]
end

/-- The mosts' cells behind count. -/
noncomputable def mfun (m width first : Nat) (bs : List (List Nat)) (x : Nat) : Nat :=
  if x / 2 < m then (if x % 2 = 0 then (mostOf width (first + x / 2) bs).1 else (mostOf width (first + x / 2) bs).2) else 0

/-- What count leaves. -/
structure Done (L : Nat) (w w' : World) (nd wsb kb hb mb cb H width block K : Nat) (n t step : Int) (first stop : Nat) (bs : List (List Nat)) (cds : List CD) : Prop where
  node : Blk w' nd (ndArr n t cb K wsb) 99
  ws : ∃ vo vc, Blk w' wsb (wsArr hb H width block kb mb (.slice vo 0 vc)) 94
  cn : Blk w' kb (wordsOf (block * width) fun _ => 0) 54
  ms : Blk w' mb (intsOf (block * 2) (mfun (stop - first) width first bs)) 102
  cs : ∃ C' cds', Blk w' cb C' 90 ∧ CastsIn C' cds' ∧ cds'.length = cds.length ∧ ∀ j (h : j < cds.length), cds'[j]? = some (if first ≤ j ∧ j < stop then countedCD cds[j] step n t (mostOf width j bs).1 (mostOf width j bs).2 else cds[j])
  bel : Below L w w'

set_option maxHeartbeats 8000000 in
set_option maxRecDepth 100000 in
theorem count28 (L nd wsb kb hb mb cb H width block K : Nat) (n t step : Int) (first stop : Nat) (hs : List HM) (cds : List CD) (w : World) (hnt : NT n t) (hfs : first < stop) (hsb : stop - first ≤ block) (hbw : block * width ≤ 65536) (hw1 : 1 ≤ width) (hww : width ≤ 65536) (hH : hs.length = H) (hH2 : H ≤ 4096)
    (hK : cds.length = K) (hK2 : K ≤ 4096) (hsk : stop ≤ K) (hL : L ≤ w.heap.size) (hlow : L ≤ wsb ∧ L ≤ kb ∧ L ≤ mb ∧ L ≤ cb)
    (hnd : Blk w nd (ndArr n t cb K wsb) 99) (hws : Blk w wsb (wsArr hb H width block kb mb (.slice none 0 0)) 94) (hkb : Blk w kb (wordsOf (block * width) fun _ => 0) 54) (hmb : Blk w mb (intsOf (block * 2) fun _ => 0) 102)
    (C0 : Array Value) (hcb : Blk w cb C0 90) (hC0 : CastsIn C0 cds) (hhn : HeardN w hb kb hs) (hbody : ∀ h ∈ hs, stop ≤ h.ws.length ∧ ∀ l, first ≤ l → l < stop → h.ws.getD l 0 < width) :
    Calls Try.prog 28 #[.pointer (some ⟨nd, 0, none⟩), .int .i64 step, .int .i64 (first : Int), .int .i64 (stop : Int)] w fun e w' => e = .returned (.tuple #[]) ∧ Done L w w' nd wsb kb hb mb cb H width block K n t step first stop (bodies hs) cds := by
  have HND : Hid (Blk w nd (ndArr n t cb K wsb) 99) := hnd
  have HMB : Hid (Blk w mb (intsOf (block * 2) fun _ => 0) 102) := hmb
  have HCB : Hid (Blk w cb C0 90) := hcb
  have HC0 : Hid (CastsIn C0 cds) := hC0
  have HHN : Hid (HeardN w hb kb hs) := hhn
  have HBD : Hid (∀ h ∈ hs, stop ≤ h.ws.length ∧ ∀ l, first ≤ l → l < stop → h.ws.getD l 0 < width) := hbody
  have HNT : Hid (NT n t) := hnt
  obtain ⟨hlW, hlK, hlM, hlC⟩ := hlow
  obtain ⟨m, hm⟩ : ∃ m, stop - first = m := ⟨_, rfl⟩
  have hm1 : 1 ≤ m := by omega
  have hmw : m * width ≤ block * width := Nat.mul_le_mul_right _ (by omega)
  obtain ⟨sz, hsz⟩ : ∃ sz, block * width = sz := ⟨_, rfl⟩
  have HSZ : Hid (block * width = sz) := hsz
  have HMM : Hid (stop - first = m) := hm
  have hm65 : m ≤ 65536 := by
    have := Nat.mul_le_mul_left m hw1
    omega
  have hCS0 : CSt L w w wsb kb sz hb H width block mb (fun _ => 0) [] (.slice none 0 0) := ⟨hws, by rw [← hsz]; exact hkb, World.ownsRow_nil _ _ _ _, fun _ _ _ _ _ _ h => h, Below.refl _ _, hlW, hlK⟩
  have HCS0 : Hid (CSt L w w wsb kb sz hb H width block mb (fun _ => 0) [] (.slice none 0 0)) := hCS0
  have HHL : Hid (hs.length = H) := hH
  have HKL : Hid (cds.length = K) := hK
  have q0 : w.cell? ⟨nd, 12, none⟩ = some (.pointer (some ⟨wsb, 0, none⟩)) := by rw [hnd.cell]; rfl
  have q1 : w.cell? ⟨wsb, 0, none⟩ = some (.slice (some ⟨hb, 0, none⟩) H H) := by rw [hws.cell]; rfl
  have hszl : sz ≤ 65536 := by omega
  have hmsz : m * width ≤ sz := by omega
  clear hnd hws hkb hmb hcb hC0 hhn hbody hCS0 hH hK hm hsz hnt
  go_enter Try.func28, Try.ntmps28
  go_wp2_with fail
  go_loopw [32] (fun i wr => ∃ (h : Nat) (C : Nat → Nat) (T : List Nat) (tv : Value), h ≤ H ∧ i = .int .i64 h ∧ CSt L w wr wsb kb sz hb H width block mb C T tv ∧ Counted m width first (fun _ => (bodies hs).take h) C T ∧ T.length ≤ h * 65536) (fun i _ => H - (intOf i).toNat)
  case atStart => exact ⟨0, _, _, _, Nat.zero_le _, rfl, HCS0.out, (Counted.start m width first).congr (fun b _ => by simp), by simp⟩
  case round =>
    obtain ⟨h, C, T, tv, hh, rfl, hcs, hct, htl⟩ := hrel
    have HCS : Hid (CSt L w wr wsb kb sz hb H width block mb C T tv) := hcs
    have HCT : Hid (Counted m width first (fun _ => (bodies hs).take h) C T) := hct
    clear hct
    by_cases hlt : h < H
    · have hhl : h < hs.length := by rw [HHL.out]; exact hlt
      obtain ⟨D, hD, hDc⟩ := HHN.out
      have hDr := hcs.keep _ _ _ (by decide) (by decide) (hD.type_ne HCS0.out.cn (by decide)) hD
      obtain ⟨d0, d1, d2⟩ := hDc h hhl
      obtain ⟨bl1, bl2⟩ := HBD.out _ (List.getElem_mem hhl)
      have e0 : wr.cell? ⟨hb, h * 2, none⟩ = some (.int .i64 hs[h].fr) := by rw [hDr.cell]; exact d0
      have e1 : wr.cell? ⟨hb, h * 2 + 1, none⟩ = some (.slice hs[h].ao hs[h].ws.length hs[h].ws.length) := by rw [hDr.cell]; exact d1
      rcases d2 with ⟨_, d3⟩ | ⟨bb, hao, hbk, hbw2⟩
      · rw [d3] at bl1; simp at bl1; omega
      have HBB : Hid (∀ wx, CSt L w wx wsb kb sz hb H width block mb C T tv → True) := fun _ _ => trivial
      have HBW : Hid (Blk w bb (wl hs[h].ws) 54) := hbw2
      have HBH : Hid ((bodies hs)[h]? = some hs[h].ws) := by unfold Hid; simp [bodies, hhl]
      have hx1 : (h : Int) < (H : Int) := by omega
      rw [hao] at e1
      generalize hs[h] = g at *
      obtain ⟨fr, gao, gcap, ws⟩ := g
      simp only at e0 e1 bl1 bl2 HBW HBH
      clear HBB hD hDc hDr d0 d1 hao hbw2
      have hs1 : (first : Int) ≤ (stop : Int) := by omega
      have hs2 : (stop : Int) ≤ (ws.length : Int) := by omega
      have hs3 : ws.length ≠ first := by omega
      have hs4 : ¬ (ws.length - first = 0) := by omega
      have hm' := HMM.out
      have hwl := hcs.ws.lt
      have hbbl := HBW.out.lt
      clear hcs
      go_wp2_with fail
      clear e0 e1
      have HCSA : Hid (CSt L w (wr.alloc (Obj.cells #[Value.int .i64 fr, .slice (some ⟨bb, 0, none⟩) ws.length ws.length] 87)) wsb kb sz hb H width block mb C T tv) := HCS.out.alloc hL _
      go_loopw [11, 42] (fun at_ i wx => ∃ (j : Nat) (C : Nat → Nat) (T : List Nat) (tv : Value), j ≤ m ∧ i = .int .i64 j ∧ at_ = .int .i64 ((j * width : Nat) : Int) ∧ CSt L w wx wsb kb sz hb H width block mb C T tv ∧ Counted m width first (fun x => if x < j then (bodies hs).take (h + 1) else (bodies hs).take h) C T ∧ T.length ≤ h * 65536 + j) (fun _ i _ => m - (intOf i).toNat)
      case atStart => exact ⟨0, C, T, tv, Nat.zero_le _, rfl, by simp, HCSA.out, HCT.out.congr (fun b _ => if_neg (Nat.not_lt_zero b)), Nat.le_trans htl (Nat.le_add_right _ _)⟩
      case round =>
        clear HCS HCT HCSA htl
        clear C T tv
        obtain ⟨j, C, T, tv, hj, rfl, rfl, hcs, hct, htl⟩ := hrel
        have HCS : Hid (CSt L w wr wsb kb sz hb H width block mb C T tv) := hcs
        have HCT : Hid (Counted m width first (fun x => if x < j then (bodies hs).take (h + 1) else (bodies hs).take h) C T) := hct
        by_cases hjm : j < m
        · have hbr := hcs.keep _ _ _ (by decide) (by decide) hbk HBW.out
          obtain ⟨y, hy⟩ : ∃ y, ws.getD (first + j) 0 = y := ⟨_, rfl⟩
          have hyw : y < width := by rw [← hy]; exact bl2 _ (by omega) (by omega)
          have hcy : wr.cell? ⟨bb, first + j, none⟩ = some (.int .u32 (y : Int)) := by
            rw [hbr.cell]
            unfold wl
            rw [wordsOf_get _ (by omega), hy]
          obtain ⟨a0, ha0⟩ : ∃ a0, j * width = a0 := ⟨_, rfl⟩
          obtain ⟨i0, hi0⟩ : ∃ i0, j * width + y = i0 := ⟨_, rfl⟩
          have hi0l : i0 < sz := by have := idx_lt hjm hyw; omega
          have hCi : C i0 ≤ h := by
            have h1 := hct.at_ j y hjm hyw
            rw [hi0, if_neg (by omega)] at h1
            rw [h1]
            have := num_le (first + j) y ((bodies hs).take h)
            have h3 : ((bodies hs).take h).length ≤ h := List.length_take_le _ _
            omega
          obtain ⟨cc, hcc⟩ : ∃ cc, C i0 = cc := ⟨_, rfl⟩
          have HCC : Hid (C i0 = cc) := hcc
          have HI0 : Hid (j * width + y = i0) := hi0
          have HY : Hid (ws.getD (first + j) 0 = y) := hy
          have c1 : wr.cell? ⟨wsb, 1, none⟩ = some (.int .i64 (width : Int)) := by rw [hcs.ws.cell]; rfl
          have c3 : wr.cell? ⟨wsb, 3, none⟩ = some (.slice (some ⟨kb, 0, none⟩) sz sz) := by rw [hcs.ws.cell, ← HSZ.out]; rfl
          have c4 : wr.cell? ⟨wsb, 4, none⟩ = some tv := by rw [hcs.ws.cell]; rfl
          have f4 := hcs.ws.free 4
          have ck : wr.cell? ⟨kb, i0, none⟩ = some (.int .u32 (cc : Int)) := by rw [hcs.cn.cell, wordsOf_get _ hi0l, hcc]
          have fk := hcs.cn.free i0
          have n1 : kb ≠ wsb := hcs.cn.type_ne hcs.ws (by decide)
          have n2 : wsb ≠ kb := Ne.symm n1
          have w1 : IntKind.i64.wrap (y : Int) = (y : Int) := wrap_nat _ (by omega)
          have w2 : IntKind.i64.wrap ((a0 : Int) + (y : Int)) = (i0 : Int) := by
            rw [← hi0, ha0, show ((a0 : Int) + (y : Int)) = ((a0 + y : Nat) : Int) by omega]; exact wrap_nat _ (by omega)
          have w3 : IntKind.u32.wrap ((cc : Int) + 1) = ((cc + 1 : Nat) : Int) := by
            rw [show ((cc : Int) + 1) = ((cc + 1 : Nat) : Int) by omega]; exact wrap_u32 _ (by omega)
          obtain ⟨a1, ha1⟩ : ∃ a1, (j + 1) * width = a1 := ⟨_, rfl⟩
          have w4 : IntKind.i64.wrap ((a0 : Int) + (width : Int)) = (a1 : Int) := by
            rw [← ha1, Nat.add_mul, Nat.one_mul, ha0, show ((a0 : Int) + (width : Int)) = ((a0 + width : Nat) : Int) by omega]
            exact wrap_nat _ (by omega)
          have HA1 : Hid ((j + 1) * width = a1) := ha1
          have hx2 : (j : Int) < (m : Int) := by omega
          have hx3 : (i0 : Int) < (sz : Int) := by omega
          have hown := hcs.own
          have hwrl : L ≤ wr.heap.size := hcs.hw hL
          rw [ha0]
          have HST : Hid (Counted m width first (fun x => if x < j + 1 then (bodies hs).take (h + 1) else (bodies hs).take h) (fun i => if i = i0 then C i + 1 else C i) (if C i0 = 0 then T ++ [i0] else T)) := by
            have h1 := hct.step hjm HY.out hyw
            rw [hi0] at h1
            refine h1.congr fun x _ => ?_
            by_cases hx : x = j
            · subst hx
              rw [if_pos (show x < x + 1 by omega), if_pos rfl, if_neg (show ¬ x < x by omega)]
              obtain ⟨hl, he⟩ := List.getElem?_eq_some_iff.1 HBH.out
              rw [take_snoc _ _ hl, he]
            · rw [if_neg hx]
              by_cases hxj : x < j
              · rw [if_pos hxj, if_pos (by omega)]
              · rw [if_neg hxj, if_neg (by omega)]
          clear hcs hct hbr hy hi0 hcc ha0 ha1
          by_cases hc0 : cc = 0
          · have hcb : ((cc : Int) == 0) = true := by simp [hc0]
            have HC0' : Hid (cc = 0) := hc0
            clear hc0
            go_wp2_with (at_builtin; refine wpList_append_i rfl _ _ rfl L tv T.length (T.map iv) rfl (hown.alloc _) wr.heap.size (.int .i64 (i0 : Int)) rfl (Blk.new _ _ _) rfl (by omega) (by simp; omega) ?_)
            intro gg cap2 w5 hown5 hgr5
            have hk5 : ∀ b D t, tv.ownBlock ≠ some b → Blk wr b D t → Blk w5 b D t := fun b D t hne hB => (hB.alloc _).grown hgr5 hne
            have hW5 := hk5 _ _ _ (own_ne HCS.out.own HCS.out.ws (by decide)) HCS.out.ws
            have hK5 := hk5 _ _ _ (own_ne HCS.out.own HCS.out.cn (by decide)) HCS.out.cn
            have c1' : w5.cell? ⟨wsb, 1, none⟩ = some (.int .i64 (width : Int)) := by rw [hW5.cell]; rfl
            have c3' : w5.cell? ⟨wsb, 3, none⟩ = some (.slice (some ⟨kb, 0, none⟩) sz sz) := by rw [hW5.cell, ← HSZ.out]; rfl
            have c4' : w5.cell? ⟨wsb, 4, none⟩ = some tv := by rw [hW5.cell]; rfl
            have f4' := hW5.free 4
            have ck' : w5.cell? ⟨kb, i0, none⟩ = some (.int .u32 (cc : Int)) := by rw [hK5.cell, wordsOf_get _ hi0l, HCC.out]
            have fk' := hK5.free i0
            have HCS5 : Hid _ := (HCS.out.add hL hgr5 hown5).set i0 (cc + 1)
            clear hk5 hW5 hK5 hown5 hgr5 hown
            go_wp2
            go_roundw
            case rel =>
              refine ⟨j + 1, _, _, _, by omega, by go_num, by rw [HA1.out], HCS5.out, ?_, ?_⟩
              · have := HST.out
                rw [if_pos (by rw [HCC.out]; exact HC0'.out)] at this
                refine ⟨fun b c hb hc => ?_, fun i hi => ?_, this.nod, this.lt, fun i hi => this.mem i ?_, fun i hi => ?_⟩
                · rw [← this.at_ b c hb hc]; by_cases he : b * width + c = i0
                  · rw [if_pos he, if_pos he, he, HCC.out]
                  · rw [if_neg he, if_neg he]
                · rw [← this.off i hi]; by_cases he : i = i0
                  · rw [if_pos he, if_pos he, he, HCC.out]
                  · rw [if_neg he, if_neg he]
                · by_cases he : i = i0
                  · rw [if_pos he]; omega
                  · rw [if_neg he] at hi ⊢; exact hi
                · have := this.pos i hi
                  by_cases he : i = i0
                  · rw [if_pos he]; omega
                  · rw [if_neg he] at this ⊢; exact this
              · simp; omega
            case measure => simp [intOf]; omega
          · have hcb : ((cc : Int) == 0) = false := by simp; omega
            have HCS5 : Hid _ := HCS.out.set i0 (cc + 1)
            clear hown
            go_wp2
            go_roundw
            case rel =>
              refine ⟨j + 1, _, _, _, by omega, by go_num, by rw [HA1.out], HCS5.out, ?_, by omega⟩
              have := HST.out
              rw [if_neg (by rw [HCC.out]; exact hc0)] at this
              refine ⟨fun b c hb hc => ?_, fun i hi => ?_, this.nod, this.lt, fun i hi => this.mem i ?_, fun i hi => ?_⟩
              · rw [← this.at_ b c hb hc]; by_cases he : b * width + c = i0
                · rw [if_pos he, if_pos he, he, HCC.out]
                · rw [if_neg he, if_neg he]
              · rw [← this.off i hi]; by_cases he : i = i0
                · rw [if_pos he, if_pos he, he, HCC.out]
                · rw [if_neg he, if_neg he]
              · by_cases he : i = i0
                · rw [if_pos he]; omega
                · rw [if_neg he] at hi ⊢; exact hi
              · have := this.pos i hi
                by_cases he : i = i0
                · rw [if_pos he]; omega
                · rw [if_neg he] at this ⊢; exact this
            case measure => simp [intOf]; omega
        · have hje : j = m := by omega
          have hx2 : decide ((j : Int) < (m : Int)) = false := by rw [decide_eq_false_iff_not]; omega
          have HJE : Hid (j = m) := hje
          clear hcs hct hje
          go_wp2
          go_roundw
          case rel =>
            refine ⟨h + 1, C, T, tv, by omega, by go_num, HCS.out, HCT.out.congr (fun b hb => ?_), by have := HJE.out; omega⟩
            rw [if_pos (by rw [HJE.out]; exact hb)]
          case measure => simp [intOf]; omega
    · have hhe : h = H := by omega
      have HCT2 : Hid (Counted m width first (fun _ => bodies hs) C T) := by
        have := HCT.out
        rw [hhe, ← HHL.out] at this
        exact this.congr fun b _ => (List.take_of_length_le (by simp [bodies])).symm
      have htl2 : T.length ≤ 268435456 := by omega
      have hMr := hcs.keep _ _ _ (by decide) (by decide) (HMB.out.type_ne HCS0.out.cn (by decide)) HMB.out
      have HMR : Hid (Blk wr mb (intsOf (block * 2) fun _ => 0) 102) := hMr
      obtain ⟨vo, vc, hv⟩ : ∃ vo vc, tv = .slice vo T.length vc := by
        rcases hcs.own.2 with ⟨h1, h2⟩ | ⟨g, cp, cur, h1, _⟩
        · exact ⟨none, 0, by rw [h1, h2]⟩
        · exact ⟨_, cp, h1⟩
      have HV : Hid (tv = .slice vo T.length vc) := hv
      have c5 : wr.cell? ⟨wsb, 5, none⟩ = some (.slice (some ⟨mb, 0, none⟩) block block) := by rw [hcs.ws.cell]; rfl
      have w1 : IntKind.i64.wrap ((stop : Int) - (first : Int)) = (m : Int) := by
        have := HMM.out
        rw [show ((stop : Int) - (first : Int)) = (m : Int) by omega]; exact wrap_nat _ (by omega)
      have hx2 : (m : Int) ≤ (block : Int) := by have := HMM.out; omega
      have hmb2 : m ≤ block := by have := HMM.out; omega
      have hdx : decide ((h : Int) < (H : Int)) = false := by rw [decide_eq_false_iff_not]; omega
      clear hMr hcs hhe hv HCT
      go_wp2_with (refine wpList_clear_pairs rfl _ rfl mb m block rfl (by omega) (block * 2) _ HMR.out (by omega) ?_)
      intro w2 hB2 hgr2
      have keep2 : ∀ b D t, b ≠ mb → Blk wr b D t → Blk w2 b D t := fun b D t hne hB => hB.grown hgr2 (by simp; exact Ne.symm hne)
      have HCS2 : Hid (PSt L w w2 wsb kb sz hb H width block mb C T tv 0 0) := by
        have hc := HCS.out
        refine ⟨keep2 _ _ _ (hc.ws.type_ne HMR.out (by decide)) hc.ws, ?_, own_keep hc.own fun q cur hq hB => keep2 _ _ _ (hB.type_ne HMR.out (by decide)) hB, ?_, fun b D t h1 h2 h3 h4 h5 => keep2 _ _ _ h4 (hc.keep b D t h1 h2 h3 h5), ?_, hlW, hlK, hlM⟩
        · have := keep2 _ _ _ (hc.cn.type_ne HMR.out (by decide)) hc.cn
          rw [wordsOf_congr (g := C)]
          · exact this
          · intro i _; simp
        · rw [intsOf_congr (g := fun _ => 0)]
          · exact hB2
          · intro i _; simp [mosts]
        · exact Below.grown hc.bel hgr2 (hc.hw hL) (fun q hq => by simp at hq; omega)
      clear hB2 hgr2 keep2 c5 w1 HCS htl HMR
      as_aux_lemma =>
      have c4 : w2.cell? ⟨wsb, 4, none⟩ = some (.slice vo T.length vc) := by rw [HCS2.out.ws.cell, HV.out]; rfl
      go_wp2_with fail
      clear c4
      go_loopw [99] (fun i wx => ∃ k : Nat, k ≤ T.length ∧ i = .int .i64 k ∧ PSt L w wx wsb kb sz hb H width block mb C T tv k k) (fun i _ => T.length - (intOf i).toNat)
      case atStart => exact ⟨0, Nat.zero_le _, rfl, HCS2.out⟩
      case round =>
        obtain ⟨k, hk, rfl, hps⟩ := hrel
        have HPS : Hid (PSt L w wr wsb kb sz hb H width block mb C T tv k k) := hps
        by_cases hkl : k < T.length
        · obtain ⟨i, hi⟩ : ∃ i, T[k] = i := ⟨_, rfl⟩
          have hiT : i ∈ T := by rw [← hi]; exact List.getElem_mem hkl
          have hil := HCT2.out.lt i hiT
          have hipos := HCT2.out.pos i hiT
          have hiN : i ∉ T.take k := by
            intro hm
            obtain ⟨q, hq, he⟩ := List.mem_iff_getElem.1 hm
            have hq' : q < k := by simp at hq; omega
            rw [List.getElem_take, ← hi] at he
            have := (List.getElem_inj HCT2.out.nod).1 he
            omega
          rcases hps.own.2 with ⟨_, h0⟩ | ⟨g, cp, cur, htv, hgL, hgB, _⟩
          · omega
          have HTV : Hid (tv = .slice (some ⟨g, 0, none⟩) T.length cp) := htv
          have hvo : vo = some ⟨g, 0, none⟩ := by
            have := HV.out
            rw [htv] at this
            simp at this
            exact this.1.symm
          have hct : wr.cell? ⟨g, k, none⟩ = some (.int .i64 (i : Int)) := by
            have h1 := hps.own
            rw [htv] at h1
            rw [h1.cellAt k (by omega)]
            simp [iv, hkl, hi]
          obtain ⟨bq, hbq⟩ : ∃ bq, i / width = bq := ⟨_, rfl⟩
          obtain ⟨cq, hcq⟩ : ∃ cq, i % width = cq := ⟨_, rfl⟩
          have hbm : bq < m := by rw [← hbq]; exact Nat.div_lt_of_lt_mul (by rw [Nat.mul_comm]; exact hil)
          have hcw : cq < width := by rw [← hcq]; exact Nat.mod_lt _ (by omega)
          have y1 : (i : Int) / (width : Int) = (bq : Int) := by rw [← Int.natCast_ediv, hbq]
          have y2 : (i : Int) % (width : Int) = (cq : Int) := by rw [← Int.natCast_emod, hcq]
          have y3 : IntKind.i64.wrap (bq : Int) = (bq : Int) := wrap_nat _ (by omega)
          have hbe : i = bq * width + cq := by
            have := Nat.div_add_mod i width
            rw [hbq, hcq, Nat.mul_comm] at this; exact this.symm
          obtain ⟨cc, hcc⟩ : ∃ cc, C i = cc := ⟨_, rfl⟩
          have hccl : cc ≤ 4096 := by
            rw [← hcc, hbe, HCT2.out.at_ bq cq hbm hcw]
            have := num_le (first + bq) cq (bodies hs)
            have h3 : (bodies hs).length = H := by simp [bodies, HHL.out]
            omega
          have y4 : IntKind.i64.wrap (cc : Int) = (cc : Int) := wrap_nat _ (by omega)
          have c1 : wr.cell? ⟨wsb, 1, none⟩ = some (.int .i64 (width : Int)) := by rw [hps.ws.cell]; rfl
          have c3 : wr.cell? ⟨wsb, 3, none⟩ = some (.slice (some ⟨kb, 0, none⟩) sz sz) := by rw [hps.ws.cell, ← HSZ.out]; rfl
          have ck : wr.cell? ⟨kb, i, none⟩ = some (.int .u32 (cc : Int)) := by
            rw [hps.cn.cell, wordsOf_get _ (by omega), if_neg hiN, hcc]
          have fk := hps.cn.free i
          obtain ⟨M, hM⟩ : ∃ M, mosts width C (T.take k) bq = M := ⟨_, rfl⟩
          have HMo : Hid (mosts width C (T.take k) bq = M) := hM
          obtain ⟨M1, M2⟩ := M
          have z1 : wr.cell? ⟨mb, bq * 2, none⟩ = some (.int .i64 (M1 : Int)) := by
            rw [hps.ms.cell, intsOf_get _ (by omega), if_pos (by omega), show bq * 2 / 2 = bq by omega, hM]
          have z2 : wr.cell? ⟨mb, bq * 2 + 1, none⟩ = some (.int .i64 (M2 : Int)) := by
            rw [hps.ms.cell, intsOf_get _ (by omega), if_neg (by omega), show (bq * 2 + 1) / 2 = bq by omega, hM]
          have fz1 := hps.ms.free (bq * 2)
          have fz2 := hps.ms.free (bq * 2 + 1)
          have n1 : kb ≠ mb := hps.cn.type_ne hps.ms (by decide)
          have n2 : mb ≠ kb := Ne.symm n1
          have n3 : wsb ≠ kb := hps.ws.type_ne hps.cn (by decide)
          have n4 : kb ≠ wsb := Ne.symm n3
          have n5 : wsb ≠ mb := hps.ws.type_ne hps.ms (by decide)
          have n6 : mb ≠ wsb := Ne.symm n5
          have HMS : Hid (∀ b, mosts width C (T.take (k + 1)) b = if bq = b then upd (mosts width C (T.take k) b) cq cc else mosts width C (T.take k) b) := by
            intro b
            have := mosts_step width C hkl b
            rw [hi, hbq, hcq, hcc] at this
            exact this
          have HTK : Hid (∀ x, x ∈ T.take (k + 1) ↔ x ∈ T.take k ∨ x = i) := by
            intro x
            rw [take_snoc _ _ hkl, hi]
            simp
          have hx3 : (k : Int) < (T.length : Int) := by omega
          have hx4 : (i : Int) < (sz : Int) := by omega
          have hx5 : (bq : Int) < (m : Int) := by omega
          have HCI : Hid (C i = cc) := hcc
          subst hvo
          clear hps hiN hcc hi hbq hcq hbe hM htv hgB
          go_wp2_with fail
          go_quiet (fail)
          go_upto_region 22 with fail
          simp only [y2]
          refine gen_world (Pr := fun X => Code.wp Try.prog _ _ _ X) (fun Y => PSt L w Y wsb kb sz hb H width block mb C T tv (k + 1) k) ((HPS.out.still ⟨_, rfl⟩).zero HTK.out) ?_
          intro Y hY
          have HY : Hid (PSt L w Y wsb kb sz hb H width block mb C T tv (k + 1) k) := hY
          have z1 : Y.cell? ⟨mb, bq * 2, none⟩ = some (.int .i64 (M1 : Int)) := by
            rw [hY.ms.cell, intsOf_get _ (by omega), if_pos (by omega), show bq * 2 / 2 = bq by omega, HMo.out]
          have z2 : Y.cell? ⟨mb, bq * 2 + 1, none⟩ = some (.int .i64 (M2 : Int)) := by
            rw [hY.ms.cell, intsOf_get _ (by omega), if_neg (by omega), show (bq * 2 + 1) / 2 = bq by omega, HMo.out]
          have fz1 := hY.ms.free (bq * 2)
          have fz2 := hY.ms.free (bq * 2 + 1)
          clear hY ck fk c1 c3 hct y1 y2 y3 y4
          obtain ⟨tk, htk⟩ : ∃ tk, decide (0 < cq ∧ (M2 < cc ∨ (cc = M2 ∧ cq < M1))) = tk := ⟨_, rfl⟩
          have HTT : Hid (decide (0 < cq ∧ (M2 < cc ∨ (cc = M2 ∧ cq < M1))) = tk) := htk
          clear htk
          go_cut [157] from 100 to 164 (fun s157 wx => s157 = .bool tk ∧ Y = wx)
          case first =>
            by_cases g1 : 0 < cq
            · have d1 : decide ((0 : Int) < (cq : Int)) = true := by rw [decide_eq_true_iff]; omega
              have d1n : decide (0 < cq) = true := by rw [decide_eq_true_iff]; omega
              by_cases g2 : M2 < cc
              · have d2 : decide ((M2 : Int) < (cc : Int)) = true := by rw [decide_eq_true_iff]; omega
                have d2n : decide (M2 < cc) = true := by rw [decide_eq_true_iff]; omega
                have HI : Hid (tk = true) := by unfold Hid; rw [← HTT.out]; exact decide_eq_true ⟨g1, .inl g2⟩
                go_wp2_with fail
                go_meet
                exact ⟨by rw [HI.out], rfl⟩
              · have d2 : decide ((M2 : Int) < (cc : Int)) = false := by rw [decide_eq_false_iff_not]; omega
                have d2n : decide (M2 < cc) = false := by rw [decide_eq_false_iff_not]; omega
                by_cases g3 : cc = M2
                · have d3 : ((cc : Int) == (M2 : Int)) = true := by simp [g3]
                  have H3 : Hid (cc = M2) := g3
                  by_cases g4 : cq < M1
                  · have d4 : decide ((cq : Int) < (M1 : Int)) = true := by rw [decide_eq_true_iff]; omega
                    have d4n : decide (cq < M1) = true := by rw [decide_eq_true_iff]; omega
                    have HI : Hid (tk = true) := by unfold Hid; rw [← HTT.out]; exact decide_eq_true ⟨g1, .inr ⟨g3, g4⟩⟩
                    clear g3
                    go_wp2_with fail
                    go_meet
                    exact ⟨by rw [HI.out], rfl⟩
                  · have d4 : decide ((cq : Int) < (M1 : Int)) = false := by rw [decide_eq_false_iff_not]; omega
                    have d4n : decide (cq < M1) = false := by rw [decide_eq_false_iff_not]; omega
                    have HI : Hid (tk = false) := by unfold Hid; rw [← HTT.out]; exact decide_eq_false (by omega)
                    clear g3
                    go_wp2_with fail
                    go_meet
                    exact ⟨by rw [HI.out], rfl⟩
                · have d3 : ((cc : Int) == (M2 : Int)) = false := by simp; omega
                  have HI : Hid (tk = false) := by unfold Hid; rw [← HTT.out]; exact decide_eq_false (by omega)
                  go_wp2_with fail
                  go_meet
                  exact ⟨by rw [HI.out], rfl⟩
            · have d1 : decide ((0 : Int) < (cq : Int)) = false := by rw [decide_eq_false_iff_not]; omega
              have d1n : decide (0 < cq) = false := by rw [decide_eq_false_iff_not]; omega
              have HI : Hid (tk = false) := by unfold Hid; rw [← HTT.out]; exact decide_eq_false (by omega)
              go_wp2_with fail
              go_meet
              exact ⟨by rw [HI.out], rfl⟩
          case rest =>
          obtain ⟨rfl, rfl⟩ := hcut
          cases tk
          · have hno := of_decide_eq_false HTT.out
            have HFIN : Hid (PSt L w Y wsb kb sz hb H width block mb C T tv (k + 1) (k + 1)) := by
              refine HY.out.same fun b => ?_
              rw [HMS.out b]
              by_cases hb : bq = b
              · rw [if_pos hb, ← hb, HMo.out]
                unfold upd
                rw [if_neg hno]
              · rw [if_neg hb]
            clear hno
            go_wp2
            go_roundw
            case rel => exact ⟨k + 1, by omega, by go_num, HFIN.out⟩
            case measure => simp [intOf]; omega
          · have hyes := of_decide_eq_true HTT.out
            have HFIN : Hid _ := HY.out.up (bq := bq) (x := cq) (y := cc) fun b => by
              rw [HMS.out b]
              by_cases hb : bq = b
              · rw [if_pos hb, if_pos hb, ← hb, HMo.out]
                unfold upd
                rw [if_pos hyes]
              · rw [if_neg hb, if_neg hb]
            clear hyes
            go_wp2
            go_roundw
            case rel => exact ⟨k + 1, by omega, by go_num, HFIN.out⟩
            case measure => simp [intOf]; omega
        · have hke : k = T.length := by omega
          have HZ : Hid (Blk wr kb (wordsOf sz fun _ => 0) 54) := by
            have := hps.cn
            rw [hke, List.take_of_length_le (Nat.le_refl _)] at this
            unfold Hid
            rw [wordsOf_congr (g := fun i => if i ∈ T then 0 else C i)]
            · exact this
            · intro i _
              by_cases hi : i ∈ T
              · rw [if_pos hi]
              · rw [if_neg hi]
                by_cases h0 : C i = 0
                · rw [h0]
                · exact absurd (HCT2.out.mem i h0) hi
          have HQ : Hid (Blk wr mb (intsOf (block * 2) (mfun m width first (bodies hs))) 102) := by
            have := hps.ms
            rw [hke, List.take_of_length_le (Nat.le_refl _)] at this
            unfold Hid
            rw [intsOf_congr (g := fun x => if x % 2 = 0 then (mosts width C T (x / 2)).1 else (mosts width C T (x / 2)).2)]
            · exact this
            · intro x _
              unfold mfun
              by_cases hx : x / 2 < m
              · rw [if_pos hx, HCT2.out.most (by omega) hx]
              · rw [if_neg hx]
                have h0 : mosts width C T (x / 2) = (0, 0) := by
                  unfold mosts
                  have gen : ∀ l : List Nat, (∀ i ∈ l, i < m * width) → l.foldl (fun q i => if i / width = x / 2 then upd q (i % width) (C i) else q) (0, 0) = (0, 0) := by
                    intro l
                    induction l with
                    | nil => intro _; rfl
                    | cons a l ih =>
                      intro hl
                      rw [List.foldl_cons, if_neg]
                      · exact ih fun i hi => hl i (List.mem_cons_of_mem _ hi)
                      · have := hl a List.mem_cons_self
                        have h2 : a / width < m := Nat.div_lt_of_lt_mul (by rw [Nat.mul_comm]; exact this)
                        omega
                  exact gen T HCT2.out.lt
                rw [h0]; simp
          have HWS : Hid (Blk wr wsb (wsArr hb H width block kb mb tv) 94) := hps.ws
          have HKP : Hid (∀ b D t, t ≠ 94 → t ≠ 3 → b ≠ kb → b ≠ mb → Blk w b D t → Blk wr b D t) := hps.keep
          have hbel := hps.bel
          have c4 : wr.cell? ⟨wsb, 4, none⟩ = some (.slice vo T.length vc) := by rw [hps.ws.cell, HV.out]; rfl
          have f4 := hps.ws.free 4
          have hx3 : decide ((k : Int) < (T.length : Int)) = false := by rw [decide_eq_false_iff_not]; omega
          have HNKM : Hid (kb ≠ mb ∧ wsb ≠ kb ∧ wsb ≠ mb) := ⟨hps.cn.type_ne hps.ms (by decide), hps.ws.type_ne hps.cn (by decide), hps.ws.type_ne hps.ms (by decide)⟩
          clear hps HPS hke HCT2 HCS2
          as_aux_lemma =>
          go_upto_region 25 with fail
          go_cut [22] from 85 to 202 (fun _ wx => ∃ vo2 vc2, wx = wr.setCell ⟨wsb, 4, none⟩ (.slice vo2 0 vc2))
          case first =>
            cases vo
            all_goals
              go_wp2_with fail
              go_meet
              exact ⟨_, _, rfl⟩
          case rest =>
          as_aux_lemma =>
          obtain ⟨vo2, vc2, hwc⟩ := hcut
          obtain ⟨nkm, nwk, nwm⟩ := HNKM.out
          have HW2 : Hid (Blk wc wsb (wsArr hb H width block kb mb (.slice vo2 0 vc2)) 94) := by unfold Hid; rw [hwc]; exact HWS.out.set 4 _
          have HZ2 : Hid (Blk wc kb (wordsOf sz fun _ => 0) 54) := by unfold Hid; rw [hwc]; exact HZ.out.set_ne (Ne.symm nwk) _ _
          have HQ2 : Hid (Blk wc mb (intsOf (block * 2) (mfun m width first (bodies hs))) 102) := by unfold Hid; rw [hwc]; exact HQ.out.set_ne (Ne.symm nwm) _ _
          have HN2 : Hid (Blk wc nd (ndArr n t cb K wsb) 99) := by
            unfold Hid; rw [hwc]
            have h1 := HKP.out nd _ 99 (by decide) (by decide) (HND.out.type_ne HCS0.out.cn (by decide)) (HND.out.type_ne HMB.out (by decide)) HND.out
            exact h1.set_ne (h1.type_ne HWS.out (by decide)) _ _
          have HC2 : Hid (Blk wc cb C0 90) := by
            unfold Hid; rw [hwc]
            have h1 := HKP.out cb _ 90 (by decide) (by decide) (HCB.out.type_ne HCS0.out.cn (by decide)) (HCB.out.type_ne HMB.out (by decide)) HCB.out
            exact h1.set_ne (h1.type_ne HWS.out (by decide)) _ _
          have hb2 : Below L w wc := by rw [hwc]; exact hbel.setCell hlW _
          clear hwc HWS HZ HQ HKP hbel c4 f4
          go_wp2_with fail
          go_loopw [175] (fun i wx => ∃ (b : Nat) (C' : Array Value) (cds' : List CD), b ≤ m ∧ i = .int .i64 b ∧ Blk wx cb C' 90 ∧ CastsIn C' cds' ∧ cds'.length = cds.length ∧ (∀ j (h : j < cds.length), cds'[j]? = some (if first ≤ j ∧ j < first + b then countedCD cds[j] step n t (mostOf width j (bodies hs)).1 (mostOf width j (bodies hs)).2 else cds[j])) ∧ (∀ x D t, x ≠ cb → Blk wc x D t → Blk wx x D t) ∧ Below L wc wx) (fun i _ => m - (intOf i).toNat)
          case atStart => exact ⟨0, C0, cds, Nat.zero_le _, rfl, HC2.out, HC0.out, rfl, fun j hj => by rw [if_neg (by omega)]; simp [hj], fun _ _ _ _ h => h, Below.refl _ _⟩
          case round =>
            obtain ⟨b, C', cds', hbm, rfl, hCb, hCi, hcl, hcd, hkp, hbl⟩ := hrel
            have HCB2 : Hid (Blk wr cb C' 90) := hCb
            have HCI : Hid (CastsIn C' cds') := hCi
            have HCL : Hid (cds'.length = cds.length) := hcl
            have HCDS : Hid (∀ j (h : j < cds.length), cds'[j]? = some (if first ≤ j ∧ j < first + b then countedCD cds[j] step n t (mostOf width j (bodies hs)).1 (mostOf width j (bodies hs)).2 else cds[j])) := hcd
            have HKP2 : Hid (∀ x D t, x ≠ cb → Blk wc x D t → Blk wr x D t) := hkp
            have hNr := hkp _ _ _ (HN2.out.type_ne HC2.out (by decide)) HN2.out
            have hMr := hkp _ _ _ (HQ2.out.type_ne HC2.out (by decide)) HQ2.out
            clear hCb hCi hcl hcd hkp
            by_cases hbl2 : b < m
            · obtain ⟨q, hq⟩ : ∃ q, first + b = q := ⟨_, rfl⟩
              have hqK : q < K := by have := HMM.out; omega
              have hqc : q < cds.length := by rw [HKL.out]; exact hqK
              have hqc' : q < cds'.length := by rw [HCL.out]; exact hqc
              obtain ⟨p, hp⟩ : ∃ p, mostOf width q (bodies hs) = p := ⟨_, rfl⟩
              have HP : Hid (mostOf width q (bodies hs) = p) := hp
              obtain ⟨p1, p2⟩ := p
              have z1 : wr.cell? ⟨mb, b * 2, none⟩ = some (.int .i64 (p1 : Int)) := by
                rw [hMr.cell, intsOf_get _ (by omega)]
                unfold mfun
                rw [if_pos (by omega), if_pos (by omega), show b * 2 / 2 = b by omega, hq, hp]
              have z2 : wr.cell? ⟨mb, b * 2 + 1, none⟩ = some (.int .i64 (p2 : Int)) := by
                rw [hMr.cell, intsOf_get _ (by omega)]
                unfold mfun
                rw [if_pos (by omega), if_neg (by omega), show (b * 2 + 1) / 2 = b by omega, hq, hp]
              have g1 : wr.cell? ⟨nd, 1, none⟩ = some (.int .i64 n) := by rw [hNr.cell]; rfl
              have g2 : wr.cell? ⟨nd, 2, none⟩ = some (.int .i64 t) := by rw [hNr.cell]; rfl
              have g4 : wr.cell? ⟨nd, 4, none⟩ = some (.slice (some ⟨cb, 0, none⟩) K K) := by rw [hNr.cell]; rfl
              have y1 : IntKind.i64.wrap ((first : Int) + (b : Int)) = (q : Int) := by
                rw [← hq, show ((first : Int) + (b : Int)) = ((first + b : Nat) : Int) by omega]; exact wrap_nat _ (by omega)
              have hx3 : (b : Int) < (m : Int) := by omega
              have hx4 : (q : Int) < (K : Int) := by omega
              have HQE : Hid (first + b = q) := hq
              have H31 : Hid (∀ X, Blk X cb C' 90 → Calls Try.prog 31 #[.pointer (some ⟨cb, q * 6, none⟩), .int .i64 step, .int .i64 n, .int .i64 t, .int .i64 (p1 : Int), .int .i64 (p2 : Int)] X fun e w' => RetCt cb cds' q (countedCD cds'[q] step n t p1 p2) X e w') := fun X hX => counted31 cb C' cds' q step n t p1 p2 HNT.out X hX HCI.out hqc'
              have hNra := hNr
              have hwrl : L ≤ wr.heap.size := by have := hb2.size; have := hbl.size; omega
              have hcbl := HCB2.out.lt
              have HRX : Hid (∀ o : Array Value, Blk (wr.alloc (.cells o 102)) nd (ndArr n t cb K wsb) 99 ∧ Blk (wr.alloc (.cells o 102)) wr.heap.size o 102 ∧ Blk (wr.alloc (.cells o 102)) cb C' 90 ∧ (∀ x D t, x ≠ cb → Blk wc x D t → Blk (wr.alloc (.cells o 102)) x D t) ∧ Below L wc (wr.alloc (.cells o 102))) :=
                fun o => ⟨hNra.alloc _, Blk.new _ _ _, HCB2.out.alloc _, fun x D t' hne hB => (HKP2.out x D t' hne hB).alloc _, hbl.alloc hwrl _⟩
              clear hNr hMr hp hq hNra
              go_upto_region 29 with fail
              refine gen_world (Pr := fun X => Code.wp Try.prog _ _ _ X) (fun X => Blk X nd (ndArr n t cb K wsb) 99 ∧ Blk X wr.heap.size #[.int .i64 (p1 : Int), .int .i64 (p2 : Int)] 102 ∧ Blk X cb C' 90 ∧ (∀ x D t, x ≠ cb → Blk wc x D t → Blk X x D t) ∧ Below L wc X) (HRX.out _) ?_
              intro X hX
              obtain ⟨x1, x2, x3, x4, x5⟩ := hX
              obtain ⟨Bn, hBn⟩ : ∃ Bn, wr.heap.size = Bn := ⟨_, rfl⟩
              rw [hBn] at x2 ⊢
              have HX3 : Hid (Blk X cb C' 90) := x3
              have HX4 : Hid (∀ x D t, x ≠ cb → Blk wc x D t → Blk X x D t) := x4
              have HX5 : Hid (Below L wc X) := x5
              have HX1 : Hid (Blk X nd (ndArr n t cb K wsb) 99) := x1
              have HX2 : Hid (Blk X Bn #[.int .i64 (p1 : Int), .int .i64 (p2 : Int)] 102) := x2
              have HXL : Hid (L ≤ X.heap.size) := Nat.le_trans (Nat.le_trans hL hb2.size) x5.size
              have S0 : X.drew.cell? ⟨nd, 1, none⟩ = some (.int .i64 n) ∧ X.drew.cell? ⟨nd, 2, none⟩ = some (.int .i64 t) ∧ X.drew.cell? ⟨nd, 4, none⟩ = some (.slice (some ⟨cb, 0, none⟩) K K) ∧ X.drew.cell? ⟨Bn, 0, none⟩ = some (.int .i64 (p1 : Int)) ∧ X.drew.cell? ⟨Bn, 1, none⟩ = some (.int .i64 (p2 : Int)) :=
                ⟨(x1.cell 1).trans rfl, (x1.cell 2).trans rfl, (x1.cell 4).trans rfl, (x2.cell 0).trans rfl, (x2.cell 1).trans rfl⟩
              have hncb : nd ≠ cb := x1.type_ne x3 (by decide)
              have hnbb : Bn ≠ cb := x2.type_ne x3 (by decide)
              clear x1 x2 x3 x4 x5 hBn z1 z2 g1 g2 g4 HRX
              go_region_held3 (fun w' => w'.cell? ⟨nd, 1, none⟩ = some (.int .i64 n) ∧ w'.cell? ⟨nd, 2, none⟩ = some (.int .i64 t) ∧ w'.cell? ⟨nd, 4, none⟩ = some (.slice (some ⟨cb, 0, none⟩) K K) ∧ w'.cell? ⟨Bn, 0, none⟩ = some (.int .i64 (p1 : Int)) ∧ w'.cell? ⟨Bn, 1, none⟩ = some (.int .i64 (p2 : Int)))
                (first | exact S9 | exact S0 | go_keep)
                (first | (go_at_call 31; refine Calls.mono (H31.out _ (show Blk X.drew cb C' 90 from HX3.out)) ?_; rintro e w9 ⟨rfl, hc9, hk9, hb9⟩; have S9 : w9.cell? ⟨nd, 1, none⟩ = some (.int .i64 n) ∧ w9.cell? ⟨nd, 2, none⟩ = some (.int .i64 t) ∧ w9.cell? ⟨nd, 4, none⟩ = some (.slice (some ⟨cb, 0, none⟩) K K) ∧ w9.cell? ⟨Bn, 0, none⟩ = some (.int .i64 (p1 : Int)) ∧ w9.cell? ⟨Bn, 1, none⟩ = some (.int .i64 (p2 : Int)) := (have y1 := hk9 nd _ _ hncb HX1.out; have y2 := hk9 Bn _ _ hnbb HX2.out; ⟨(y1.cell 1).trans rfl, (y1.cell 2).trans rfl, (y1.cell 4).trans rfl, (y2.cell 0).trans rfl, (y2.cell 1).trans rfl⟩)))
              all_goals
                have HC9 : Hid (∃ C', Blk w9 cb C' 90 ∧ CastsIn C' (cds'.set q (countedCD cds'[q] step n t p1 p2))) := hc9
                have HK9 : Hid (∀ x D t, x ≠ cb → Blk wc x D t → Blk w9 x D t) := fun x D t' hne hB => hk9 x D t' hne (HX4.out x D t' hne hB)
                have hbx : Below L wc w9 := (HX5.out.drew).trans (hb9 L hlC HXL.out)
                clear hc9 hk9 hb9 S9 S0
                go_wp2
                go_roundw
                case rel =>
                  obtain ⟨C9, hB9, hC9⟩ := HC9.out
                  refine ⟨b + 1, C9, _, by omega, by go_num, hB9, hC9, by simp [HCL.out], fun j hj => ?_, HK9.out, hbx⟩
                  have h1 := HCDS.out j hj
                  have h2 := HQE.out
                  by_cases hjq : j = q
                  · subst hjq
                    have h3 : cds'[j] = cds[j] := by
                      rw [if_neg (by omega)] at h1
                      obtain ⟨_, h4⟩ := List.getElem?_eq_some_iff.1 h1
                      exact h4
                    rw [List.getElem?_set_self hqc', if_pos (by omega), h3, HP.out]
                  · rw [List.getElem?_set_ne (Ne.symm hjq), h1]
                    congr 1
                    by_cases hr : first ≤ j ∧ j < first + b
                    · rw [if_pos hr, if_pos (by omega)]
                    · rw [if_neg hr, if_neg (by omega)]
                case measure => simp [intOf]; omega
            · have hbe : b = m := by omega
              have hx3 : decide ((b : Int) < (m : Int)) = false := by rw [decide_eq_false_iff_not]; omega
              have HBE : Hid (b = m) := hbe
              clear hNr hMr hbe
              go_wp2
              go_end0
              have hmm := HMM.out
              have hbe := HBE.out
              refine ⟨rfl, ⟨HKP2.out _ _ _ (HN2.out.type_ne HC2.out (by decide)) HN2.out, ⟨vo2, vc2, HKP2.out _ _ _ (HW2.out.type_ne HC2.out (by decide)) HW2.out⟩, ?_, ?_, ⟨C', cds', HCB2.out, HCI.out, HCL.out, fun j hj => ?_⟩, hb2.trans hbl⟩⟩
              · rw [HSZ.out]; exact HKP2.out _ _ _ (HZ2.out.type_ne HC2.out (by decide)) HZ2.out
              · rw [hmm]; exact HKP2.out _ _ _ (HQ2.out.type_ne HC2.out (by decide)) HQ2.out
              · rw [HCDS.out j hj]
                congr 1
                by_cases hr : first ≤ j ∧ j < first + b
                · rw [if_pos hr, if_pos (by omega)]
                · rw [if_neg hr, if_neg (by omega)]
end Go.Proofs.Qxb6619498a
