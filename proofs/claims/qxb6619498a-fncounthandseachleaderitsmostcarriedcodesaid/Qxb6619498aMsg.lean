import Derived.Test.Qxb6619498aWire
namespace Go.Proofs.Qxb6619498a
open Go.RowKit

theorem wire_grow {L : Nat} {w0 w w1 : World} {P n : Nat} {rd : Int} {v : Value} {cs : List Nat} {ch us : Nat} {F : Nat → Nat} {gg cap : Nat} {o2 : Obj} (h : Wire L w P n rd v cs ch us F) (hb : Below L w0 w) (hL : L ≤ w.heap.size)
    (hgrow : (((w.alloc (.cells (wordsOf (64 * n) fun _ => 0) 54)).alloc o2).drew).grownBy w1 v.ownBlock)
    (hown1 : w1.ownsRow L 81 1 (.slice (some ⟨gg, 0, none⟩) (cs.length + 1) cap) (cs.length + 1) (cs.map (cv n) ++ [cv n w.heap.size])) :
    Wire L (w1.setCell ⟨P, 2, none⟩ (.slice (some ⟨gg, 0, none⟩) (cs.length + 1) cap)) P n rd (.slice (some ⟨gg, 0, none⟩) (cs.length + 1) cap) (cs ++ [w.heap.size]) ch us F ∧
    Pass cs w (w1.setCell ⟨P, 2, none⟩ (.slice (some ⟨gg, 0, none⟩) (cs.length + 1) cap)) ∧ Below L w0 (w1.setCell ⟨P, 2, none⟩ (.slice (some ⟨gg, 0, none⟩) (cs.length + 1) cap)) := by
  have hne : v.ownBlock ≠ some P := own_ne h.own h.wire (by decide)
  have hk1 : Blk w1 P #[.int .i64 (n : Int), .int .i64 rd, v, .int .i64 (ch : Int), .int .i64 (us : Int)] 83 := Blk.grown (w := ((w.alloc _).alloc o2).drew) ((h.wire.alloc _).alloc _) hgrow hne
  have hpass : ∀ b C t, t ≠ 81 → t ≠ 83 → Blk w b C t → Blk (w1.setCell ⟨P, 2, none⟩ (.slice (some ⟨gg, 0, none⟩) (cs.length + 1) cap)) b C t := fun b C t h1 h2 hb =>
    (Blk.grown (w := ((w.alloc _).alloc o2).drew) ((hb.alloc _).alloc _) hgrow (own_ne h.own hb (Ne.symm h1))).set_ne (hb.type_ne h.wire h2) _ _
  have hnew : Blk (w1.setCell ⟨P, 2, none⟩ (.slice (some ⟨gg, 0, none⟩) (cs.length + 1) cap)) w.heap.size (wordsOf (64 * n) fun _ => 0) 54 := by
    refine (Blk.grown (w := ((w.alloc _).alloc o2).drew) ((Blk.new w _ _).alloc _) hgrow ?_).set_ne (by have := h.wire.lt; omega) _ _
    intro he
    have := (h.own.lt _ he).2; omega
  have hfresh : w.heap.size ∉ cs := by
    intro hin
    obtain ⟨q, hq, he⟩ := List.mem_iff_getElem.1 hin
    have := (h.chk q hq).lt
    rw [he] at this; exact absurd this (Nat.lt_irrefl _)
  refine ⟨⟨hk1.set 2 _, ?_, ?_, ?_, ?_, h.lowP, ?_⟩, fun b C t h1 h2 _ hb => hpass b C t h1 h2 hb, ?_⟩
  · rw [List.length_append, List.length_singleton, List.map_append]
    exact own_set_ne hown1 (own_ne hown1 hk1 (by decide)) _ _
  · intro c hc
    rcases Nat.lt_or_ge c cs.length with g | g
    · rw [List.getElem_append_left g]
      exact hpass _ _ _ (by decide) (by decide) (h.chk c g)
    · have : c = cs.length := by simp at hc; omega
      subst this
      rw [List.getElem_append_right (by omega)]
      simp only [Nat.sub_self, List.getElem_cons_zero]
      rw [wordsOf_congr (g := fun _ => 0) (fun i _ => h.zero _ (by omega))]
      exact hnew
  · rw [List.nodup_append]
    refine ⟨h.nod, by simp, fun a ha b hb => ?_⟩
    simp at hb; subst hb; intro e; subst e; exact hfresh ha
  · intro b hb'
    rcases List.mem_append.1 hb' with g | g
    · exact h.low b g
    · simp at g; omega
  · intro g hg
    refine h.zero g (Nat.le_trans ?_ hg)
    rw [List.length_append]
    exact Nat.mul_le_mul_right _ (by omega)
  · refine Below.setCell (p := ⟨P, 2, none⟩) ?_ h.lowP _
    refine Below.grown (w := ((w.alloc _).alloc o2).drew) ?_ hgrow ?_ (fun k hk => (h.own.lt k hk).1)
    · exact ((hb.alloc hL _).alloc (by simp; omega) _).drew
    · show _ ≤ ((w.alloc _).alloc o2).heap.size
      simp; omega

theorem gen_world {Pr : World → Prop} {w0 : World} (R : World → Prop) (hR : R w0) (h : ∀ Y, R Y → Pr Y) : Pr w0 := h _ hR
theorem gen_still {P : World → Prop} {wc : World} {q : Nat} (h : ∀ X, Still wc X → P X) : P (wc.drewN q) := h _ ⟨q, rfl⟩

/-- What message hands out. -/
def RetM (L P n : Nat) (r : Int) (cs : List Nat) (s : Nat) (qs : List Pt) (F : Nat → Nat) (w : World) (e : Ending) (w' : World) : Prop :=
  ∃ v' cs' b, e = .returned (.slice (some ⟨b, s % 64 * n, none⟩) n n) ∧ cs'[s / 64]? = some b ∧ Wire L w' P n r v' cs' (s / 64) ((s % 64 + 1) * n) (lay n s qs F) ∧
    (cs' = cs ∨ (s / 64 = cs.length ∧ ∃ N, w.heap.size ≤ N ∧ cs' = cs ++ [N])) ∧ Pass cs w w' ∧ Below L w w'


theorem msg_done {L P n : Nat} {r : Int} {v3 : Value} {cs cs3 : List Nat} {ch2 u2 s b : Nat} {F f : Nat → Nat} {w Y wf : World} {qs : List Pt} (hW : Wire L Y P n r v3 cs3 ch2 (u2 * n + n) F) (hc3 : ch2 < cs3.length) (hbe : cs3[ch2] = b)
    (hcs3 : cs3 = cs ∨ (ch2 = cs.length ∧ ∃ N, w.heap.size ≤ N ∧ cs3 = cs ++ [N])) (hP : Pass cs w Y) (hbY : Below L w Y) (hB : Blk wf b (wordsOf (64 * n) f) 54) (h1 : ∀ l, l < n → f (u2 * n + l) = one l qs)
    (h2 : ∀ j, j < 64 * n → ¬ (u2 * n ≤ j ∧ j < u2 * n + n) → f j = F (ch2 * (64 * n) + j)) (hpass : ∀ c C t, c ≠ b → Blk Y c C t → Blk wf c C t) (hb : Below L Y wf) (hs1 : s / 64 = ch2) (hs2 : s % 64 = u2) :
    RetM L P n r cs s qs F w (.returned (.slice (some ⟨b, u2 * n, none⟩) n n)) wf := by
  have hsn : s * n = ch2 * (64 * n) + u2 * n := by
    have : s = ch2 * 64 + u2 := by omega
    rw [this, Nat.add_mul, Nat.mul_assoc]
  have hsn1 : (s + 1) * n = ch2 * (64 * n) + u2 * n + n := by rw [Nat.add_mul, Nat.one_mul, hsn]
  have hub : u2 * n + n ≤ 64 * n := by
    have h3 : u2 + 1 ≤ 64 := by omega
    have h4 := Nat.mul_le_mul_right n h3
    rw [Nat.add_mul, Nat.one_mul] at h4; exact h4
  have hbB : Blk Y b (wordsOf (64 * n) fun j => F (ch2 * (64 * n) + j)) 54 := by rw [← hbe]; exact hW.chk ch2 hc3
  refine ⟨v3, cs3, b, by rw [hs2], by rw [hs1, ← hbe]; simp [hc3], ⟨?_, ?_, ?_, hW.nod, hW.low, hW.lowP, ?_⟩, ?_, ?_, hbY.trans hb⟩
  · rw [hs1, hs2, Nat.add_mul, Nat.one_mul]
    exact hpass _ _ _ (hW.wire.type_ne hbB (by decide)) hW.wire
  · refine ⟨hW.own.1, ?_⟩
    rcases hW.own.2 with hn | ⟨q, cap, cur, rfl, hq, hg, rr⟩
    · exact .inl hn
    · have hq2 : Blk Y q cur 81 := hg
      exact .inr ⟨q, cap, cur, rfl, hq, hpass _ _ _ (hq2.type_ne hbB (by decide)) hq2, rr⟩
  · intro c hc
    by_cases hcc : c = ch2
    · subst hcc
      rw [hbe, wordsOf_congr (g := f)]
      · exact hB
      · intro j hj
        unfold lay
        rw [hsn, hsn1]
        by_cases hj2 : u2 * n ≤ j ∧ j < u2 * n + n
        · rw [if_pos (by omega)]
          have := h1 (j - u2 * n) (by omega)
          rw [show u2 * n + (j - u2 * n) = j by omega] at this
          rw [this]
          congr 1; omega
        · rw [if_neg (by omega), h2 j hj hj2]
    · have hne : cs3[c] ≠ b := by
        intro he
        rw [← hbe] at he
        exact hcc ((List.getElem_inj hW.nod).1 he)
      rw [wordsOf_congr (g := fun j => F (c * (64 * n) + j))]
      · exact hpass _ _ _ hne (hW.chk c hc)
      · intro j hj
        unfold lay
        rw [hsn, hsn1]
        rw [if_neg]
        intro ⟨g1, g2⟩
        rcases Nat.lt_or_ge c ch2 with g | g
        · have := Nat.mul_le_mul_right (64 * n) (show c + 1 ≤ ch2 by omega)
          rw [Nat.add_mul, Nat.one_mul] at this
          omega
        · have := Nat.mul_le_mul_right (64 * n) (show ch2 + 1 ≤ c by omega)
          rw [Nat.add_mul, Nat.one_mul] at this
          omega
  · intro g hg
    unfold lay
    rw [hsn, hsn1, if_neg, hW.zero g hg]
    intro ⟨g1, g2⟩
    have := Nat.mul_le_mul_right (64 * n) (show ch2 + 1 ≤ cs3.length by omega)
    rw [Nat.add_mul, Nat.one_mul] at this
    omega
  · rcases hcs3 with h | ⟨h3, h4⟩
    · exact .inl h
    · exact .inr ⟨by rw [hs1]; exact h3, h4⟩
  · intro x C t ht1 ht2 hx hbx
    have hy := hP x C t ht1 ht2 hx hbx
    refine hpass _ _ _ ?_ hy
    intro he
    subst he
    have hmem : x ∈ cs3 := by rw [← hbe]; exact List.getElem_mem hc3
    rcases hcs3 with h | ⟨_, N, hN, h4⟩
    · rw [h] at hmem; exact hx hmem
    · rw [h4] at hmem
      rcases List.mem_append.1 hmem with g | g
      · exact hx g
      · simp at g; have := hbx.lt; omega

set_option maxHeartbeats 8000000 in
set_option maxRecDepth 100000 in
theorem message_of (L P n : Nat) (hn : 1 ≤ n) (hn2 : n ≤ 1024) (rd r : Int) (v : Value) (cs : List Nat) (ch u s : Nat) (F : Nat → Nat) (w : World) (hw : Wire L w P n rd v cs ch (u * n) F) (hu : u ≤ 64) (hL : L ≤ w.heap.size)
    (hcl : cs.length ≤ 1000000) (hs : (r = rd ∧ s = ch * 64 + u) ∨ (r ≠ rd ∧ s = 0)) (hs2 : s / 64 ≤ cs.length)
    (ao : Option Addr) (cap : Nat) (qs : List Pt) (hin : PtsIn n qs) (hql : qs.length ≤ 2000000) (hp : PartsB w ao qs) :
    Calls Try.prog 27 #[.pointer (some ⟨P, 0, none⟩), .int .i64 r, .slice ao qs.length cap] w fun e w' => RetM L P n r cs s qs F w e w' := by
  have HW : Hid (Wire L w P n rd v cs ch (u * n) F) := hw
  have HIN : Hid (PtsIn n qs) := hin
  have HP : Hid (PartsB w ao qs) := hp
  obtain ⟨ch1, u1, hcu⟩ : ∃ ch1 u1 : Nat, (r = rd ∧ ch1 = ch ∧ u1 = u) ∨ (r ≠ rd ∧ ch1 = 0 ∧ u1 = 0) := by
    by_cases h : r = rd
    · exact ⟨ch, u, .inl ⟨h, rfl, rfl⟩⟩
    · exact ⟨0, 0, .inr ⟨h, rfl, rfl⟩⟩
  obtain ⟨ch2, u2, hcu2⟩ : ∃ ch2 u2 : Nat, (u1 = 64 ∧ ch2 = ch1 + 1 ∧ u2 = 0) ∨ (u1 ≠ 64 ∧ ch2 = ch1 ∧ u2 = u1) := by
    by_cases h : u1 = 64
    · exact ⟨_, _, .inl ⟨h, rfl, rfl⟩⟩
    · exact ⟨_, _, .inr ⟨h, rfl, rfl⟩⟩
  have hch2 : s / 64 = ch2 := by omega
  have hu2 : s % 64 = u2 := by omega
  have hu2' : u2 < 64 := by omega
  have hu1' : u1 ≤ 64 := by omega
  have hch2' : ch2 ≤ cs.length := by omega
  obtain ⟨wd, hwd⟩ : ∃ wd : Nat, wd = 64 * n := ⟨_, rfl⟩
  have hm : IntKind.i64.wrap (64 * (n : Int)) = (wd : Int) := by
    rw [hwd, show (64 * (n : Int)) = ((64 * n : Nat) : Int) by omega]; exact wrap_nat _ (by omega)
  have HCU : Hid _ := hcu
  have HCU2 : Hid _ := hcu2
  have HWD : Hid (wd = 64 * n) := hwd
  have HNP : Hid (∀ bp C, Blk w bp C 79 → bp ∉ cs) := by
    intro bp C hbp hmem
    obtain ⟨q, hq, he⟩ := List.mem_iff_getElem.1 hmem
    have := hw.chk q hq
    rw [he] at this
    exact hbp.type_ne this (by decide) rfl
  clear hw hin hp hs hcu hcu2 hwd
  go_enter Try.func27, Try.ntmps27
  have hw0 := HW.out.wire
  have c1 : w.cell? ⟨P, 1, none⟩ = some (.int .i64 rd) := by rw [hw0.cell]; rfl
  have c3 : w.cell? ⟨P, 3, none⟩ = some (.int .i64 (ch : Int)) := by rw [hw0.cell]; rfl
  have c4 : w.cell? ⟨P, 4, none⟩ = some (.int .i64 ((u * n : Nat) : Int)) := by rw [hw0.cell]; rfl
  have f1 := hw0.free 1
  have f3 := hw0.free 3
  have f4 := hw0.free 4
  clear hw0
  go_upto_if 19 with fail
  go_cut [6] from 14 (fun s6 wx => s6 = .slice none 0 0 ∧ Wire L wx P n r v cs ch1 (u1 * n) F ∧ Pass cs w wx ∧ Below L w wx ∧ w.heap.size ≤ wx.heap.size)
  case first =>
    rcases HCU.out with ⟨rfl, h2, h3⟩ | ⟨h1, h2, h3⟩
    · have hb : (r != r) = false := by simp
      go_wp2_with fail
      go_meet
      exact ⟨rfl, by rw [h2, h3]; exact HW.out, Pass.refl _ _, Below.refl _ _, Nat.le_refl _⟩
    · have hb : (r != rd) = true := by simp [h1]
      go_wp2_with fail
      go_meet
      subst h2 h3
      have k1 := HW.out.setP 1 (.int .i64 r) (rd' := r) (ch' := ch) (us' := u * n) rfl
      have k2 := k1.setP 3 (.int .i64 0) (rd' := r) (ch' := 0) (us' := u * n) rfl
      have k3 := k2.setP 4 (.int .i64 0) (rd' := r) (ch' := 0) (us' := 0) rfl
      refine ⟨rfl, by rw [Nat.zero_mul]; exact k3, ((HW.out.passP 1 _).trans (k1.passP 3 _)).trans (k2.passP 4 _), k2.belowP (k1.belowP (HW.out.belowP (Below.refl _ _) _ _) _ _) _ _, ?_⟩
      simp [World.setCell]
  case rest =>
  obtain ⟨rfl, hw1, hp1, hb1, hsz1⟩ := hcut
  clear c1 c3 c4 f1 f3 f4 HW
  have HW1 : Hid (Wire L wc P n r v cs ch1 (u1 * n) F) := hw1
  have HP1 : Hid (Pass cs w wc) := hp1
  have hw0 := hw1.wire
  have c0 : wc.cell? ⟨P, 0, none⟩ = some (.int .i64 (n : Int)) := by rw [hw0.cell]; rfl
  have c3 : wc.cell? ⟨P, 3, none⟩ = some (.int .i64 (ch1 : Int)) := by rw [hw0.cell]; rfl
  have c4 : wc.cell? ⟨P, 4, none⟩ = some (.int .i64 ((u1 * n : Nat) : Int)) := by rw [hw0.cell]; rfl
  have f3 := hw0.free 3
  have f4 := hw0.free 4
  have hd : ∀ nq, Still wc (wc.drewN nq) := fun nq => ⟨nq, rfl⟩
  obtain ⟨us1, hus1⟩ : ∃ us1, u1 * n = us1 := ⟨_, rfl⟩
  have HUS1 : Hid (u1 * n = us1) := hus1
  rw [hus1] at c4
  clear hw0 hw1 hp1 hus1
  go_wp2_with fail
  go_quiet (fail)
  go_upto_if 39 with fail
  go_cut [6] from 14 (fun s6 wx => s6 = .slice none 0 0 ∧ Wire L wx P n r v cs ch2 (u2 * n) F ∧ Pass cs w wx ∧ Below L w wx ∧ w.heap.size ≤ wx.heap.size)
  case first =>
    rcases HCU2.out with ⟨h1, h2, h3⟩ | ⟨h1, h2, h3⟩
    · have hb : ((us1 : Int) == (wd : Int)) = true := by
        have := HUS1.out; rw [h1] at this
        simp [HWD.out, ← this]
      have hx : IntKind.i64.wrap ((ch1 : Int) + 1) = ((ch1 + 1 : Nat) : Int) := by
        rw [show ((ch1 : Int) + 1) = ((ch1 + 1 : Nat) : Int) by omega]; exact wrap_nat _ (by omega)
      have HFIN : Hid (∀ wx, Still wc wx → Wire L ((wx.setCell ⟨P, 3, none⟩ (.int .i64 ((ch1 + 1 : Nat) : Int))).setCell ⟨P, 4, none⟩ (.int .i64 0)) P n r v cs ch2 (u2 * n) F ∧ Pass cs w ((wx.setCell ⟨P, 3, none⟩ (.int .i64 ((ch1 + 1 : Nat) : Int))).setCell ⟨P, 4, none⟩ (.int .i64 0)) ∧ Below L w ((wx.setCell ⟨P, 3, none⟩ (.int .i64 ((ch1 + 1 : Nat) : Int))).setCell ⟨P, 4, none⟩ (.int .i64 0)) ∧ w.heap.size ≤ ((wx.setCell ⟨P, 3, none⟩ (.int .i64 ((ch1 + 1 : Nat) : Int))).setCell ⟨P, 4, none⟩ (.int .i64 0)).heap.size) := by
        intro wx hst
        have k0 := HW1.out.still hst
        have k1 := k0.setP 3 (.int .i64 ((ch1 + 1 : Nat) : Int)) (rd' := r) (ch' := ch1 + 1) (us' := u1 * n) rfl
        have k2 := k1.setP 4 (.int .i64 0) (rd' := r) (ch' := ch1 + 1) (us' := 0) rfl
        subst h2 h3
        have hpw : Pass cs w wx := HP1.out.trans fun _ _ _ _ _ _ h => h.still hst
        have hbw : Below L w wx := by obtain ⟨q, rfl⟩ := hst; exact below_drewN hb1 q
        refine ⟨by rw [Nat.zero_mul]; exact k2, (hpw.trans (k0.passP 3 _)).trans (k1.passP 4 _), k1.belowP (k0.belowP hbw _ _) _ _, ?_⟩
        simp [World.setCell, hst.heap]; exact hsz1
      go_wp2_with fail
      go_meet
      exact ⟨rfl, HFIN.out _ ⟨_, rfl⟩⟩
    · have hb : ((us1 : Int) == (wd : Int)) = false := by
        have h1' : u1 ≤ 63 := by omega
        have := Nat.mul_le_mul_right n h1'
        have h4 := HUS1.out
        have h5 := HWD.out
        simp; omega
      go_wp2_with fail
      go_meet
      subst h2 h3
      exact ⟨rfl, HW1.out.still ⟨_, rfl⟩, HP1.out.trans fun _ _ _ _ _ _ h => h.still ⟨_, rfl⟩, below_drewN hb1 _, hsz1⟩
  case rest =>
  obtain ⟨rfl, hw2, hp2, hb2, hsz2⟩ := hcut
  clear c0 c3 c4 f3 f4 HW1 HP1 HUS1 hb1 hsz1 hd
  have HW2 : Hid (Wire L wc P n r v cs ch2 (u2 * n) F) := hw2
  have HP2 : Hid (Pass cs w wc) := hp2
  obtain ⟨vo, vc, hv⟩ : ∃ vo vc, v = .slice vo cs.length vc := by
    rcases hw2.own.2 with ⟨h1, h2⟩ | ⟨g, cp, cur, h1, _⟩
    · exact ⟨none, 0, by rw [h1, h2]⟩
    · exact ⟨_, cp, h1⟩
  have hw0 := hw2.wire
  have c0 : wc.cell? ⟨P, 0, none⟩ = some (.int .i64 (n : Int)) := by rw [hw0.cell]; rfl
  have c2 : wc.cell? ⟨P, 2, none⟩ = some (.slice vo cs.length vc) := by rw [hw0.cell, hv]; rfl
  have c3 : wc.cell? ⟨P, 3, none⟩ = some (.int .i64 (ch2 : Int)) := by rw [hw0.cell]; rfl
  have f2 := hw0.free 2
  have HV : Hid (v = .slice vo cs.length vc) := hv
  have hwl := hw0.lt
  clear hw0 hw2 hp2 hv
  go_wp2_with fail
  go_quiet (fail)
  go_upto_if 60 with fail
  refine gen_still (wc := wc) (P := fun X => Code.wp Try.prog _ _ _ X) ?_
  intro X hXs
  have HW3 : Hid (Wire L X P n r v cs ch2 (u2 * n) F) := HW2.out.still hXs
  have HP3 : Hid (Pass cs w X) := HP2.out.trans fun _ _ _ _ _ _ h => h.still hXs
  have hb3 : Below L w X := by obtain ⟨q, rfl⟩ := hXs; exact below_drewN hb2 _
  have hsz3 : w.heap.size ≤ X.heap.size := by rw [hXs.heap]; exact hsz2
  have hLX : L ≤ X.heap.size := by omega
  have hw0 := HW3.out.wire
  have c0 : X.cell? ⟨P, 0, none⟩ = some (.int .i64 (n : Int)) := by rw [hw0.cell]; rfl
  have c2 : X.cell? ⟨P, 2, none⟩ = some (.slice vo cs.length vc) := by rw [hw0.cell, HV.out]; rfl
  have f2 := hw0.free 2
  have hwl := hw0.lt
  have ca2 : ∀ o o' : Obj, ((X.alloc o).alloc o').cell? ⟨P, 2, none⟩ = some (.slice vo cs.length vc) := fun o o' => (((HW3.out.wire.alloc o).alloc o').cell 2).trans (by rw [HV.out]; rfl)
  have ca1 : ∀ o : Obj, (X.alloc o).cell? ⟨P, 2, none⟩ = some (.slice vo cs.length vc) := fun o => ((HW3.out.wire.alloc o).cell 2).trans (by rw [HV.out]; rfl)
  have fa1 : ∀ o : Obj, (X.alloc o).frozen? ⟨P, 2, none⟩ = false := fun o => frozen_alloc f2 hwl o
  have fa2 : ∀ o o' : Obj, ((X.alloc o).alloc o').frozen? ⟨P, 2, none⟩ = false := fun o o' => frozen_alloc (fa1 o) (by simp; omega) o'
  have hown := HW3.out.own
  rw [HV.out] at hown
  have hne : (Value.slice vo cs.length vc).ownBlock ≠ some P := by have := own_ne HW3.out.own HW3.out.wire (by decide); rw [HV.out] at this; exact this
  clear hw0 hXs HW2 HP2 hb2 hsz2
  go_cut [6] from 14 (fun s6 wx => s6 = .slice none 0 0 ∧ ∃ v3 cs3, Wire L wx P n r v3 cs3 ch2 (u2 * n) F ∧ ch2 < cs3.length ∧ (cs3 = cs ∨ (ch2 = cs.length ∧ ∃ N, w.heap.size ≤ N ∧ cs3 = cs ++ [N])) ∧ Pass cs w wx ∧ Below L w wx ∧ w.heap.size ≤ wx.heap.size)
  case first =>
    by_cases hlen : ch2 = cs.length
    · have hb : ((ch2 : Int) == (cs.length : Int)) = true := by simp [hlen]
      have hmk := fun w' => make81 w' wd (by have := HWD.out; omega)
      go_wp2_with fail
      go_region_law ((refine step_append_chunk (by rfl) _ _ (by rfl) L (.slice vo cs.length vc) cs.length (cs.map (cv n)) (by rfl) (((hown.alloc _).alloc _).drew) (X.heap.size + 1) (.slice (some ⟨X.heap.size, 0, none⟩) wd wd) (by rfl) (heap_alloc2_new X _ _) rfl (by omega) (by simp; omega) ?_; intro gg cap3 w1 hown1 hgrow; have hq1 : w1.cell? ⟨P, 2, none⟩ = some (.slice vo cs.length vc) := (by rw [hgrow.cell_far _ (by simp; omega) (Ne.symm hne)]; exact ca2 _ _); have hq2 : w1.frozen? ⟨P, 2, none⟩ = false := (by rw [hgrow.frozen_far _ (by simp; omega) (Ne.symm hne)]; exact fa2 _ _)))
      all_goals
        have HST : Hid _ := wire_grow (w0 := w) (gg := gg) (cap := cap3) HW3.out hb3 hLX (by rw [← HV.out, HWD.out] at hgrow; exact hgrow) (by rw [HWD.out] at hown1; exact hown1)
        clear hgrow hown1
        go_wp2_with fail
        go_meet
        exact ⟨rfl, _, _, HST.out.1, by simp; omega, .inr ⟨hlen, X.heap.size, hsz3, rfl⟩, HP3.out.trans HST.out.2.1, HST.out.2.2, HST.out.2.2.size⟩
    · have hb : ((ch2 : Int) == (cs.length : Int)) = false := by simp; omega
      go_wp2_with fail
      go_meet
      exact ⟨rfl, v, cs, HW3.out, by omega, .inl rfl, HP3.out, hb3, hsz3⟩
  case rest =>
  obtain ⟨rfl, v3, cs3, hw3, hc3, hcs3, hp3, hb4, hsz4⟩ := hcut
  clear HW3 HP3 hb3 hsz3 hLX c0 c2 c3 f2 hwl ca1 ca2 fa1 fa2 hown hne HV HCU HCU2
  obtain ⟨g, cap3, hv3, hg, hgc⟩ := hw3.arr (by omega)
  have hcell := hgc ch2 hc3
  have hbk := hw3.chk ch2 hc3
  obtain ⟨b, hbe⟩ : ∃ b, cs3[ch2] = b := ⟨_, rfl⟩
  rw [hbe] at hcell hbk
  unfold cv at hcell
  rw [← HWD.out] at hcell hbk
  have hw0 := hw3.wire
  rw [hv3] at hw0
  obtain ⟨us2, hus2⟩ : ∃ us2, u2 * n = us2 := ⟨_, rfl⟩
  have hfit : us2 + n ≤ wd := by
    have h1 : u2 + 1 ≤ 64 := by omega
    have h2 := Nat.mul_le_mul_right n h1
    rw [Nat.add_mul, Nat.one_mul, hus2, ← HWD.out] at h2
    exact h2
  have hwdl : wd ≤ 65536 := by have := HWD.out; omega
  rw [hus2] at hw0
  have c0 : wc.cell? ⟨P, 0, none⟩ = some (.int .i64 (n : Int)) := by rw [hw0.cell]; rfl
  have c2 : wc.cell? ⟨P, 2, none⟩ = some (.slice (some ⟨g, 0, none⟩) cs3.length cap3) := by rw [hw0.cell]; rfl
  have c3 : wc.cell? ⟨P, 3, none⟩ = some (.int .i64 (ch2 : Int)) := by rw [hw0.cell]; rfl
  have c4 : wc.cell? ⟨P, 4, none⟩ = some (.int .i64 (us2 : Int)) := by rw [hw0.cell]; rfl
  have f4 := hw0.free 4
  have hx1 : (ch2 : Int) < (cs3.length : Int) := by omega
  have hx2 : IntKind.i64.wrap ((us2 : Int) + (n : Int)) = ((us2 + n : Nat) : Int) := by
    rw [show ((us2 : Int) + (n : Int)) = ((us2 + n : Nat) : Int) by omega]; exact wrap_nat _ (by omega)
  have hx3 : (us2 : Int) ≤ ((us2 + n : Nat) : Int) := by omega
  have hx4 : ((us2 + n : Nat) : Int) ≤ (wd : Int) := by omega
  have HBK : Hid (Blk wc b (wordsOf wd fun j => F (ch2 * wd + j)) 54) := hbk
  have HW3 : Hid (Wire L wc P n r v3 cs3 ch2 (u2 * n) F) := hw3
  have HV3 : Hid (v3 = .slice (some ⟨g, 0, none⟩) cs3.length cap3) := hv3
  have HBE : Hid (cs3[ch2] = b) := hbe
  have HUS : Hid (u2 * n = us2) := hus2
  have HCS3 : Hid _ := hcs3
  have HP3 : Hid (Pass cs w wc) := hp3
  clear hw0 hw3 hbk hgc hv3 hbe hus2 hp3 hcs3
  have hsub : us2 + n - us2 = n := by omega
  go_wp2_with fail
  go_quiet (fail)
  go_wp2_with fail
  refine gen_still (wc := wc) (P := fun X => Code.wp Try.prog _ _ _ X) ?_
  intro X hXs
  have HWX : Hid (Wire L X P n r v3 cs3 ch2 (u2 * n) F) := HW3.out.still hXs
  have hw0 := HWX.out.wire
  rw [HV3.out, HUS.out] at hw0
  have HBX : Hid (Blk X b (wordsOf wd fun j => F (ch2 * wd + j)) 54) := HBK.out.still hXs
  have HPX : Hid (Pass cs w X) := HP3.out.trans fun _ _ _ _ _ _ h => h.still hXs
  have hbX : Below L w X := by obtain ⟨q, rfl⟩ := hXs; exact below_drewN hb4 _
  have hszX : w.heap.size ≤ X.heap.size := by rw [hXs.heap]; exact hsz4
  have c0 : X.cell? ⟨P, 0, none⟩ = some (.int .i64 (n : Int)) := by rw [hw0.cell]; rfl
  have c4 : X.cell? ⟨P, 4, none⟩ = some (.int .i64 (us2 : Int)) := by rw [hw0.cell]; rfl
  have f4 := hw0.free 4
  clear hw0 hXs HW3 HBK HP3 hb4 hsz4 c2 c3 hcell
  simp only [hsub]
  go_region
  refine gen_world (Pr := fun X => Exit.then _ _ Exit.normal _ X) (fun Y => Wire L Y P n r v3 cs3 ch2 (us2 + n) F ∧ Pass cs w Y ∧ Below L w Y ∧ Blk Y b (wordsOf wd fun j => F (ch2 * wd + j)) 54) ?_ ?_
  · exact ⟨HWX.out.drew.setP 4 _ (rd' := r) (ch' := ch2) (us' := us2 + n) rfl, (HPX.out.drew).trans (HWX.out.drew.passP 4 _), HWX.out.drew.belowP hbX.drew _ _, Blk.set_ne (w := X.drew) HBX.out (HBX.out.type_ne HWX.out.wire (by decide)) _ _⟩
  clear HWX HPX HBX hbX hszX c0 c4 f4
  intro Y hY
  obtain ⟨hWY, hPY, hbY, hBY⟩ := hY
  have HWY : Hid (Wire L Y P n r v3 cs3 ch2 (us2 + n) F) := hWY
  have HPY : Hid (Pass cs w Y) := hPY
  have HBY : Hid (Blk Y b (wordsOf wd fun j => F (ch2 * wd + j)) 54) := hBY
  have HPT : Hid (PartsB Y ao qs) := HP.out.imp fun bp C hbp => hPY bp C 79 (by decide) (by decide) (HNP.out bp C hbp) hbp
  have hLb : L ≤ b := by rw [← HBE.out]; exact hWY.low _ (List.getElem_mem hc3)
  clear hWY hPY hBY
  go_wp2_with (refine wpList_clear_words rfl _ rfl b us2 n n rfl (by omega) wd _ HBY.out hfit ?_)
  intro Z hBZ hgrZ
  have HBZ : Hid (Blk Z b (wordsOf wd fun j => if us2 ≤ j ∧ j < us2 + n then 0 else F (ch2 * wd + j)) 54) := hBZ
  have HPZ : Hid (∀ c C t, c ≠ b → Blk Y c C t → Blk Z c C t) := fun c C t hne hc => hc.grown hgrZ (by simp; exact Ne.symm hne)
  have hbZ : Below L Y Z := (Below.refl _ _).grown hgrZ (by have := hbY.size; omega) (fun q hq => by simp at hq; omega)
  have hxn : ∀ l : Nat, l < n → (l : Int) < (n : Int) := fun l h => by omega
  have hpl : ∀ k, k ≤ qs.length → (qs.take k).length = k := fun k hk => by simp; omega
  clear hBZ hgrZ
  go_wp2_with fail
  go_loopw [8, 123] (fun t i wr => ∃ (k : Nat) (tb : Bool) (f : Nat → Nat), k ≤ qs.length ∧ i = .int .i64 k ∧ t = .bool tb ∧ (tb = false → ∀ l, cnt l (qs.take k) ≤ 1) ∧ Blk wr b (wordsOf wd f) 54 ∧ (∀ l, l < n → f (us2 + l) = mark l (qs.take k)) ∧ (∀ j, j < wd → ¬ (us2 ≤ j ∧ j < us2 + n) → f j = F (ch2 * wd + j)) ∧ (∀ c C t, c ≠ b → Blk Y c C t → Blk wr c C t) ∧ Below L Y wr) (fun _ i _ => qs.length - (intOf i).toNat)
  case atStart =>
    refine ⟨0, false, _, Nat.zero_le _, rfl, rfl, fun _ l => by simp [cnt], HBZ.out, ?_, ?_, HPZ.out, hbZ⟩
    · intro l hl
      rw [if_pos (by omega)]; rfl
    · intro j hj hn
      rw [if_neg hn]
  case round =>
    obtain ⟨k, tb, f, hk, rfl, rfl, htb, hBr, hf1, hf2, hPr, hbr⟩ := hrel
    have HTB : Hid (tb = false → ∀ l, cnt l (qs.take k) ≤ 1) := htb
    have HBR : Hid (Blk wr b (wordsOf wd f) 54) := hBr
    have HF1 : Hid (∀ l, l < n → f (us2 + l) = mark l (qs.take k)) := hf1
    have HF2 : Hid (∀ j, j < wd → ¬ (us2 ≤ j ∧ j < us2 + n) → f j = F (ch2 * wd + j)) := hf2
    have HPR : Hid (∀ c C t, c ≠ b → Blk Y c C t → Blk wr c C t) := hPr
    clear htb hf1 hf2 hPr
    by_cases hlt : k < qs.length
    · have hPS : PsAt wr ao qs := (HPT.out.imp fun bp C hbp => HPR.out bp C 79 (hbp.type_ne HBY.out (by decide)) hbp).at
      obtain ⟨pb, po, hao, hc1, hc2⟩ := hPS k hlt
      have hy1 : (k : Int) < (qs.length : Int) := by omega
      have hq := HIN.out _ (List.getElem_mem hlt)
      have HMS : Hid (∀ l, mark l (qs.take (k + 1)) = if qs[k].1 = l then (if mark l (qs.take k) = 0 then qs[k].2 else 4294967295) else mark l (qs.take k)) := fun l => mark_step l HIN.out hlt
      have HCS : Hid (∀ l, cnt l (qs.take (k + 1)) = if qs[k].1 = l then cnt l (qs.take k) + 1 else cnt l (qs.take k)) := fun l => cnt_step l hlt
      obtain ⟨mk, hmk⟩ : ∃ mk, f (us2 + qs[k].1) = mk := ⟨_, rfl⟩
      have HMK : Hid (mark qs[k].1 (qs.take k) = mk) := by unfold Hid; rw [← HF1.out _ hq.1, hmk]
      have HMC : Hid (mk = 0 → cnt qs[k].1 (qs.take k) = 0) := by
        intro h0
        have h1 := HMK.out
        rw [h0] at h1
        rcases cod_in (l := qs[k].1) (HIN.out.take k) with g | g
        · exact g
        · unfold mark at h1
          by_cases g0 : cnt qs[k].1 (qs.take k) = 0
          · exact g0
          · rw [if_neg g0] at h1
            by_cases g1 : cnt qs[k].1 (qs.take k) = 1
            · rw [if_pos g1] at h1; omega
            · rw [if_neg g1] at h1; omega
      generalize qs[k] = q at *
      obtain ⟨ql, qv⟩ := q
      simp only at hc1 hc2 hq HMS HCS hmk HMK HMC
      have hmc : wr.cell? ⟨b, us2 + ql, none⟩ = some (.int .u32 (mk : Int)) := by rw [hBr.cell, wordsOf_get _ (by omega), hmk]
      have hmf := hBr.free (us2 + ql)
      have hbl := hBr.lt
      have hfa : ∀ o : Obj, (wr.alloc o).frozen? ⟨b, us2 + ql, none⟩ = false := fun o => frozen_alloc hmf hbl o
      have n1 : wr.heap.size ≠ b := by omega
      have n2 : b ≠ wr.heap.size := by omega
      have hwrap := wrap_u32 qv (by omega)
      have hql1 := hxn ql hq.1
      clear hBr hPS
      subst hao
      have HREL : Hid (∀ x : Nat, (mk = 0 → x = qv) → (mk ≠ 0 → x = 4294967295) → (∀ l, l < n → (if us2 + l = us2 + ql then x else f (us2 + l)) = mark l (qs.take (k + 1))) ∧ (∀ j, j < wd → ¬ (us2 ≤ j ∧ j < us2 + n) → (if j = us2 + ql then x else f j) = F (ch2 * wd + j))) := by
        intro x hx0 hx1
        refine ⟨fun l hl => ?_, fun j hj hnj => ?_⟩
        · rw [HMS.out l]
          by_cases h1 : ql = l
          · subst h1
            rw [if_pos rfl, if_pos rfl, HMK.out]
            by_cases h0 : mk = 0
            · rw [if_pos h0]; exact hx0 h0
            · rw [if_neg h0]; exact hx1 h0
          · rw [if_neg (by omega), if_neg h1]; exact HF1.out l hl
        · rw [if_neg (by omega)]; exact HF2.out j hj hnj
      have hLr : L ≤ wr.heap.size := by have := hbr.size; have := hbY.size; omega
      by_cases h0 : mk = 0
      · have hmb : ((mk : Int) != 0) = false := by simp [h0]
        have HR := HREL.out qv (fun _ => rfl) (fun h => absurd h0 h)
        have HRH : Hid _ := HR
        clear HR HREL
        go_wp2
        go_roundw
        case rel =>
          refine ⟨k + 1, tb, fun j => if j = us2 + ql then qv else f j, by omega, by go_num, rfl, ?_, ?_, HRH.out.1, HRH.out.2, fun c C t hne hc => ((HPR.out c C t hne hc).set_ne hne _ _).alloc _, (hbr.setCell hLb _).alloc (by simp [World.setCell]; exact hLr) _⟩
          · intro ht l
            rw [HCS.out l]
            split
            · rename_i he; subst he; rw [HMC.out h0]; omega
            · exact HTB.out ht l
          · have := (HBR.out.set (us2 + ql) (.int .u32 (qv : Int))).alloc (Obj.cells #[Value.int .i64 (ql : Int), Value.int .i64 (qv : Int)] 79)
            rw [wordsOf_set] at this; exact this
        case measure => simp [intOf]; omega
      · have hmb : ((mk : Int) != 0) = true := by simp; omega
        have HR := HREL.out 4294967295 (fun h => absurd h h0) (fun _ => rfl)
        have HRH : Hid _ := HR
        clear HR HREL
        go_wp2
        go_roundw
        case rel =>
          refine ⟨k + 1, true, fun j => if j = us2 + ql then 4294967295 else f j, by omega, by go_num, rfl, (fun h => by cases h), ?_, HRH.out.1, HRH.out.2, fun c C t hne hc => ((HPR.out c C t hne hc).set_ne hne _ _).alloc _, (hbr.setCell hLb _).alloc (by simp [World.setCell]; exact hLr) _⟩
          have := (HBR.out.set (us2 + ql) (.int .u32 ((4294967295 : Nat) : Int))).alloc (Obj.cells #[Value.int .i64 (ql : Int), Value.int .i64 (qv : Int)] 79)
          rw [wordsOf_set] at this; exact this
        case measure => simp [intOf]; omega
    · have hke : k = qs.length := by omega
      subst hke
      rw [List.take_of_length_le (Nat.le_refl _)] at HTB HF1
      have HDONE : Hid (∀ wf f', Blk wf b (wordsOf wd f') 54 → (∀ l, l < n → f' (us2 + l) = one l qs) → (∀ j, j < wd → ¬ (us2 ≤ j ∧ j < us2 + n) → f' j = F (ch2 * wd + j)) → (∀ c C t, c ≠ b → Blk Y c C t → Blk wf c C t) → Below L Y wf → RetM L P n r cs s qs F w (.returned (.slice (some ⟨b, us2, none⟩) n n)) wf) := by
        intro wf f' k1 k2 k3 k4 k5
        have e1 := HWD.out
        have e2 := HUS.out
        subst e1 e2
        exact msg_done HWY.out hc3 HBE.out HCS3.out HPY.out hbY k1 k2 k3 k4 k5 hch2 hu2
      clear hBr
      cases tb
      · go_wp2
        go_ret
        exact HDONE.out _ f HBR.out (fun l hl => by rw [HF1.out l hl, mark_one l (HTB.out (by simp) l)]) HF2.out HPR.out hbr
      · go_wp2_with fail
        go_loopw [145] (fun i w2 => ∃ (k : Nat) (f2 : Nat → Nat), k ≤ qs.length ∧ i = .int .i64 k ∧ Blk w2 b (wordsOf wd f2) 54 ∧ (∀ l, l < n → f2 (us2 + l) = fin2 l qs k) ∧ (∀ j, j < wd → ¬ (us2 ≤ j ∧ j < us2 + n) → f2 j = F (ch2 * wd + j)) ∧ (∀ c C t, c ≠ b → Blk Y c C t → Blk w2 c C t) ∧ Below L Y w2) (fun i _ => qs.length - (intOf i).toNat)
        case atStart => exact ⟨0, f, Nat.zero_le _, rfl, HBR.out, fun l hl => by rw [fin2_zero]; exact HF1.out l hl, HF2.out, HPR.out, hbr⟩
        case round =>
          obtain ⟨k, f2, hk, rfl, hB2, hg1, hg2, hP2, hb2⟩ := hrel
          have HB2 : Hid (Blk wr b (wordsOf wd f2) 54) := hB2
          have HG1 : Hid (∀ l, l < n → f2 (us2 + l) = fin2 l qs k) := hg1
          have HG2 : Hid (∀ j, j < wd → ¬ (us2 ≤ j ∧ j < us2 + n) → f2 j = F (ch2 * wd + j)) := hg2
          have HP2 : Hid (∀ c C t, c ≠ b → Blk Y c C t → Blk wr c C t) := hP2
          clear hg1 hg2 hP2
          by_cases hlt2 : k < qs.length
          · have hPS : PsAt wr ao qs := (HPT.out.imp fun bp C hbp => HP2.out bp C 79 (hbp.type_ne HBY.out (by decide)) hbp).at
            obtain ⟨pb, po, hao, hc1, hc2⟩ := hPS k hlt2
            have hy1 : (k : Int) < (qs.length : Int) := by omega
            have hq := HIN.out _ (List.getElem_mem hlt2)
            have HFS : Hid (∀ l, fin2 l qs (k + 1) = if qs[k].1 = l then (if fin2 l qs k = 4294967295 then 0 else fin2 l qs k) else fin2 l qs k) := fun l => fin2_step l hlt2
            obtain ⟨mk, hmk⟩ : ∃ mk, f2 (us2 + qs[k].1) = mk := ⟨_, rfl⟩
            have HMK : Hid (fin2 qs[k].1 qs k = mk) := by unfold Hid; rw [← HG1.out _ hq.1, hmk]
            generalize qs[k] = q at *
            obtain ⟨ql, qv⟩ := q
            simp only at hc1 hc2 hq HFS hmk HMK
            have hmc : wr.cell? ⟨b, us2 + ql, none⟩ = some (.int .u32 (mk : Int)) := by rw [hB2.cell, wordsOf_get _ (by omega), hmk]
            have hmf := hB2.free (us2 + ql)
            have hbl := hB2.lt
            have hfa : ∀ o : Obj, (wr.alloc o).frozen? ⟨b, us2 + ql, none⟩ = false := fun o => frozen_alloc hmf hbl o
            have n1 : wr.heap.size ≠ b := by omega
            have n2 : b ≠ wr.heap.size := by omega
            have hql1 := hxn ql hq.1
            clear hB2 hPS
            subst hao
            have hLr : L ≤ wr.heap.size := by have := hb2.size; have := hbY.size; omega
            by_cases h0 : mk = 4294967295
            · have hmb : ((mk : Int) == 4294967295) = true := by simp [h0]
              go_wp2
              go_roundw
              case rel =>
                refine ⟨k + 1, fun j => if j = us2 + ql then 0 else f2 j, by omega, by go_num, ?_, ?_, ?_, fun c C t hne hc => ((HP2.out c C t hne hc).set_ne hne _ _).alloc _, (hb2.setCell hLb _).alloc (by simp [World.setCell]; exact hLr) _⟩
                · have := (HB2.out.set (us2 + ql) (.int .u32 ((0 : Nat) : Int))).alloc (Obj.cells #[Value.int .i64 (ql : Int), Value.int .i64 (qv : Int)] 79)
                  rw [wordsOf_set] at this; exact this
                · intro l hl
                  show (if us2 + l = us2 + ql then 0 else f2 (us2 + l)) = _
                  rw [HFS.out l]
                  by_cases h1 : ql = l
                  · subst h1
                    rw [if_pos rfl, if_pos rfl, HMK.out, if_pos h0]
                  · rw [if_neg (by omega), if_neg h1]; exact HG1.out l hl
                · intro j hj hnj
                  show (if j = us2 + ql then 0 else f2 j) = _
                  rw [if_neg (by omega)]; exact HG2.out j hj hnj
              case measure => simp [intOf]; omega
            · have hmb : ((mk : Int) == 4294967295) = false := by simp; omega
              go_wp2
              go_roundw
              case rel =>
                refine ⟨k + 1, f2, by omega, by go_num, HB2.out.alloc _, ?_, HG2.out, fun c C t hne hc => (HP2.out c C t hne hc).alloc _, hb2.alloc hLr _⟩
                intro l hl
                rw [HFS.out l]
                by_cases h1 : ql = l
                · subst h1
                  rw [if_pos rfl, HMK.out, if_neg h0, HG1.out _ hl, HMK.out]
                · rw [if_neg h1]; exact HG1.out l hl
              case measure => simp [intOf]; omega
          · have hke2 : k = qs.length := by omega
            clear hB2
            go_wp2
            go_ret
            subst hke2
            exact HDONE.out _ f2 HB2.out (fun l hl => by rw [HG1.out l hl, fin2_end l HIN.out]) HG2.out HP2.out hb2
end Go.Proofs.Qxb6619498a
