import Derived.Test.Qxb6619498aGdef
namespace Go.Proofs.Qxb6619498a
open Go.RowKit

def dcells (ds : List D) : List Value := ds.flatMap fun d => [Value.int .i64 d.node, .bool true, .int .i64 d.val]
def OwnD (w : World) (B : Nat) (v : Value) (ds : List D) : Prop := w.ownsRow B 96 3 v ds.length (dcells ds)

theorem dcells_get {ds : List D} {j : Nat} (h : j < ds.length) : (dcells ds)[j * 3]? = some (.int .i64 ds[j].node) ∧ (dcells ds)[j * 3 + 1]? = some (.bool true) ∧ (dcells ds)[j * 3 + 2]? = some (.int .i64 ds[j].val) := by
  induction ds generalizing j with
  | nil => simp at h
  | cons d l ih =>
    cases j with
    | zero => simp [dcells]
    | succ j =>
      obtain ⟨h1, h2, h3⟩ := ih (j := j) (by simpa using h)
      have e : dcells (d :: l) = [Value.int .i64 d.node, .bool true, .int .i64 d.val] ++ dcells l := by simp [dcells]
      have e3 : (j + 1) * 3 = j * 3 + 3 := by omega
      rw [e, e3]
      refine ⟨?_, ?_, ?_⟩
      · rw [List.getElem?_append_right (by simp)]; simpa using h1
      · rw [List.getElem?_append_right (by simp)]; simpa using h2
      · rw [List.getElem?_append_right (by simp)]; simpa using h3

theorem OwnD.at {w : World} {B : Nat} {v : Value} {ds : List D} (h : OwnD w B v ds) : ∃ ao cap, v = .slice ao ds.length cap ∧ DsAt w ao ds := by
  rcases h.2 with ⟨rfl, h0⟩ | ⟨g, cap, cur, rfl, _⟩
  · have hn : ds.length = 0 := h0
    exact ⟨none, 0, by rw [hn], fun j hj => by omega⟩
  · refine ⟨_, cap, rfl, fun j hj => ⟨g, 0, rfl, ?_⟩⟩
    obtain ⟨h1, h2, h3⟩ := dcells_get hj
    have c := fun q (hq : q < ds.length * 3) => h.cellAt q hq
    refine ⟨?_, ?_, ?_⟩
    · rw [Nat.zero_add, c _ (by omega)]; exact h1
    · rw [Nat.zero_add, c _ (by omega)]; exact h2
    · rw [Nat.zero_add, c _ (by omega)]; exact h3

theorem OwnD.alloc {w : World} {B : Nat} {v : Value} {ds : List D} (h : OwnD w B v ds) (o : Obj) : OwnD (w.alloc o) B v ds := World.ownsRow.alloc h o

theorem wpList_append_d {w : World} {ops : Array Oper} {rest : List Oper} {o : Oper} {a : Act} {Q : Exit → Act → World → Prop} (hgd : o.guard = none) (s x : Operand)
    (ho : o.op = .call { callee := .builtin .append, args := #[s, x], argTypes := #[104, 104] })
    (B : Nat) (v : Value) (ds : List D) (hs : a.eval s = v) (hown : OwnD w B v ds) (g : Nat) (d : D) (hx : a.eval x = .slice (some ⟨g, 0, none⟩) 1 1) (hb : Blk w g #[.int .i64 d.node, .bool true, .int .i64 d.val] 96)
    (hlen : ds.length ≤ 4000000) (hB : B ≤ w.heap.size)
    (h : ∀ v' w', OwnD w' B v' (ds ++ [d]) → w.grownBy w' v.ownBlock → wpList Try.prog ops Q rest (a.put o.dst v') w') : wpList Try.prog ops Q (o :: rest) a w := by
  obtain ⟨i0, hi, hz0, hz1, hz2⟩ := info_parts (P := Try.prog) (e := 96) (z := .agg #[.int .i64 0, .bool false, .int .i64 0]) (size := 3) (bytes := 24) (by kernel_rfl)
  refine wpList_append_own _ hgd s x 104 ho B 96 i0 (.agg #[.int .i64 0, .bool false, .int .i64 0]) 3 24 Try.underlying104 hi hz0 hz1 hz2 rfl (by decide) v ds.length (dcells ds) hs hown ⟨g, 0, none⟩ 1 1 [.int .i64 d.node, .bool true, .int .i64 d.val] hx rfl ?_ ?_ ?_ ?_ hB ?_
  · intro j u hj
    have e : (⟨g, 0, none⟩ : Addr).add j = ⟨g, j, none⟩ := by unfold Addr.add; split <;> simp_all
    rw [e, hb.cell]
    simpa using hj
  · intro u hu; simp at hu; rcases hu with rfl | rfl | rfl <;> rfl
  · unfold maxLen; omega
  · omega
  · intro v' w' h1 h2 _
    refine h v' w' ?_ h2
    unfold OwnD dcells
    unfold dcells at h1
    simpa using h1

def lowOf (gs : List G) : Int := gs.foldl (fun m g => if g.conf < m then g.conf else m) 2
def highOf (gs : List G) : Int := gs.foldl (fun m g => if m < g.conf then g.conf else m) 0
def held (gs : List G) : List D := (gs.filter fun g => decide (0 < g.conf)).map fun g => ⟨g.node, g.val⟩

theorem low_step {gs : List G} {k : Nat} (h : k < gs.length) : lowOf (gs.take (k + 1)) = if gs[k].conf < lowOf (gs.take k) then gs[k].conf else lowOf (gs.take k) := by
  unfold lowOf; rw [take_snoc _ _ h, List.foldl_append]; rfl
theorem high_step {gs : List G} {k : Nat} (h : k < gs.length) : highOf (gs.take (k + 1)) = if highOf (gs.take k) < gs[k].conf then gs[k].conf else highOf (gs.take k) := by
  unfold highOf; rw [take_snoc _ _ h, List.foldl_append]; rfl
theorem held_step {gs : List G} {k : Nat} (h : k < gs.length) : held (gs.take (k + 1)) = held (gs.take k) ++ (if 0 < gs[k].conf then [⟨gs[k].node, gs[k].val⟩] else []) := by
  unfold held; rw [take_snoc _ _ h, List.filter_append, List.map_append]
  congr 1
  by_cases hh : 0 < gs[k].conf <;> simp [hh]
theorem held_le (gs : List G) : (held gs).length ≤ gs.length := by unfold held; rw [List.length_map]; exact List.length_filter_le _ _
theorem low_in (gs : List G) (h : ∀ g ∈ gs, 0 ≤ g.conf ∧ g.conf ≤ 2) : 0 ≤ lowOf gs ∧ lowOf gs ≤ 2 := by
  unfold lowOf
  have gen : ∀ (l : List G) (m : Int), (∀ g ∈ l, 0 ≤ g.conf ∧ g.conf ≤ 2) → 0 ≤ m ∧ m ≤ 2 → 0 ≤ l.foldl (fun m g => if g.conf < m then g.conf else m) m ∧ l.foldl (fun m g => if g.conf < m then g.conf else m) m ≤ 2 := by
    intro l
    induction l with
    | nil => intro m _ hm; exact hm
    | cons a l ih =>
      intro m hl hm
      rw [List.foldl_cons]
      refine ih _ (fun g hg => hl g (List.mem_cons_of_mem _ hg)) ?_
      have := hl a List.mem_cons_self
      split <;> omega
  exact gen gs 2 h (by omega)
theorem high_in (gs : List G) (h : ∀ g ∈ gs, 0 ≤ g.conf ∧ g.conf ≤ 2) : 0 ≤ highOf gs ∧ highOf gs ≤ 2 := by
  unfold highOf
  have gen : ∀ (l : List G) (m : Int), (∀ g ∈ l, 0 ≤ g.conf ∧ g.conf ≤ 2) → 0 ≤ m ∧ m ≤ 2 → 0 ≤ l.foldl (fun m g => if m < g.conf then g.conf else m) m ∧ l.foldl (fun m g => if m < g.conf then g.conf else m) m ≤ 2 := by
    intro l
    induction l with
    | nil => intro m _ hm; exact hm
    | cons a l ih =>
      intro m hl hm
      rw [List.foldl_cons]
      refine ih _ (fun g hg => hl g (List.mem_cons_of_mem _ hg)) ?_
      have := hl a List.mem_cons_self
      split <;> omega
  exact gen gs 0 h (by omega)

theorem field0 (w : World) (a b c : Bool) : (Instr.field 35 (.agg #[.bool a, .bool b, .bool c]) 0).run Try.prog w = .ok (.bool a) w := by
  simp [Instr.field, asAgg, go_sem]

def RetJ (a v t s : Bool) (w : World) (e : Ending) (w' : World) : Prop := e = .returned (.tuple #[.agg #[.bool a, .bool v, .bool t], .bool s]) ∧ Below w.heap.size w w'

set_option maxHeartbeats 8000000 in
set_option maxRecDepth 100000 in
theorem judge_of (ao : Option Addr) (cap : Nat) (gs : List G) (hl : gs.length ≤ 2000000) (hcf : ∀ g ∈ gs, 0 ≤ g.conf ∧ g.conf ≤ 2) (wval : Value) (V T : Bool) (w : World) (hs : GsAt w ao gs)
    (h29 : ∀ w', Below w.heap.size w w' → Calls Try.prog 29 #[.slice ao gs.length cap, wval] w' fun e w2 => RetW V T w' e w2) :
    Calls Try.prog 26 #[.slice ao gs.length cap, wval] w fun e w' => RetJ (agree (vals (held gs))) V T (decide (highOf gs - lowOf gs ≤ 1)) w e w' := by
  have HS : Hid (GsAt w ao gs) := hs
  have H29 : Hid (∀ w', Below w.heap.size w w' → Calls Try.prog 29 #[.slice ao gs.length cap, wval] w' fun e w2 => RetW V T w' e w2) := h29
  have HCF : Hid (∀ g ∈ gs, 0 ≤ g.conf ∧ g.conf ≤ 2) := hcf
  clear hs h29 hcf
  go_enter Try.func26, Try.ntmps26
  go_wp2_with fail
  obtain ⟨w1, hw1⟩ : ∃ w1, w.alloc (Obj.cells #[Value.bool false, Value.bool false, Value.bool false] 35) = w1 := ⟨_, rfl⟩
  rw [hw1]
  have b1 : Below w.heap.size w w1 := by rw [← hw1]; exact (Below.refl _ _).alloc (Nat.le_refl _) _
  have HN1 : Hid (Blk w1 w.heap.size #[.bool false, .bool false, .bool false] 35) := by unfold Hid; rw [← hw1]; exact Blk.new _ _ _
  clear hw1
  refine (H29.out w1 b1).mono ?_
  rintro e w2 ⟨a, rfl, hb2⟩
  have b2 : Below w.heap.size w w2 := b1.trans (hb2.mono b1.size)
  have HN2 : Hid (Blk w2 w.heap.size #[.bool false, .bool false, .bool false] 35) := HN1.out.below hb2 HN1.out.lt
  have hNl : w.heap.size < w2.heap.size := HN2.out.lt
  go_wp2_with fail
  obtain ⟨w3, hw3⟩ : ∃ w3, w2.alloc (Obj.cells #[Value.bool a, Value.bool V, Value.bool T] 35) = w3 := ⟨_, rfl⟩
  rw [hw3]
  have b3 : Below w.heap.size w w3 := by rw [← hw3]; exact b2.alloc (by omega) _
  have HN3 : Hid (Blk w3 w.heap.size #[.bool false, .bool false, .bool false] 35) := by unfold Hid; rw [← hw3]; exact HN2.out.alloc _
  have HM3 : Hid (Blk w3 w2.heap.size #[.bool a, .bool V, .bool T] 35) := by unfold Hid; rw [← hw3]; exact Blk.new _ _ _
  clear hw3
  go_loopw [7, 8, 9, 17] (fun v lo hi i wr => ∃ k : Nat, k ≤ gs.length ∧ i = .int .i64 k ∧ lo = .int .i64 (lowOf (gs.take k)) ∧ hi = .int .i64 (highOf (gs.take k)) ∧ OwnD wr w3.heap.size v (held (gs.take k)) ∧ Below w3.heap.size w3 wr) (fun _ _ _ i _ => gs.length - (intOf i).toNat)
  case atStart => exact ⟨0, Nat.zero_le _, rfl, rfl, rfl, World.ownsRow_nil _ _ _ _, Below.refl _ _⟩
  case round =>
    obtain ⟨k, hk, rfl, rfl, rfl, hown, hbel⟩ := hrel
    have hsz := hbel.size
    have hhl := held_le (gs.take k)
    have htl : (gs.take k).length ≤ k := List.length_take_le _ _
    by_cases hlt : k < gs.length
    · obtain ⟨b, off, hao, hc1, hc2, hc3, hc4⟩ := (HS.out.below b3).below hbel k hlt
      have hx1 : (k : Int) < (gs.length : Int) := by omega
      have HLS := low_step hlt
      have HHS := high_step hlt
      have HES := held_step hlt
      obtain ⟨lo, hlo⟩ : ∃ lo, lowOf (gs.take k) = lo := ⟨_, rfl⟩
      obtain ⟨hi, hhi⟩ : ∃ hi, highOf (gs.take k) = hi := ⟨_, rfl⟩
      obtain ⟨he, hhe⟩ : ∃ he, held (gs.take k) = he := ⟨_, rfl⟩
      rw [hlo] at HLS ⊢
      rw [hhi] at HHS ⊢
      rw [hhe] at HES hown hhl
      generalize gs[k] = gk at *
      obtain ⟨nk, dk, vk, ck⟩ := gk
      simp only at hc1 hc2 hc3 hc4 HLS HHS HES
      have HL : Hid _ := HLS
      have HH : Hid _ := HHS
      have HE : Hid _ := HES
      obtain ⟨w1', hw1'⟩ : ∃ w1', wr.alloc (Obj.cells #[Value.int .i64 nk, Value.bool dk, Value.int .i64 vk, Value.int .i64 ck] 31) = w1' := ⟨_, rfl⟩
      have hd := Blk.new wr #[Value.int .i64 nk, Value.bool dk, Value.int .i64 vk, Value.int .i64 ck] 31
      rw [hw1'] at hd
      have e0 : w1'.cell? ⟨wr.heap.size, 0, none⟩ = some (.int .i64 nk) := by rw [hd.cell]; rfl
      have e2 : w1'.cell? ⟨wr.heap.size, 2, none⟩ = some (.int .i64 vk) := by rw [hd.cell]; rfl
      have e3 : w1'.cell? ⟨wr.heap.size, 3, none⟩ = some (.int .i64 ck) := by rw [hd.cell]; rfl
      have hown1 : OwnD w1'.drew w3.heap.size u7 he := by rw [← hw1']; exact hown.alloc _
      have hbel1 : Below w3.heap.size w3 w1'.drew := by rw [← hw1']; exact (hbel.alloc (by omega) _).drew
      have hs1 : w1'.drew.heap.size = wr.heap.size + 1 := by rw [← hw1']; simp [World.drew]
      have HW1 : Hid (wr.alloc (Obj.cells #[Value.int .i64 nk, Value.bool dk, Value.int .i64 vk, Value.int .i64 ck] 31) = w1') := hw1'
      clear HLS HHS HES hw1' hd hown hlo hhi hhe
      subst hao
      by_cases hp : (0 : Int) < ck
      · have HEP : Hid (held (gs.take (k + 1)) = he ++ [⟨nk, vk⟩]) := by have := HE.out; rw [if_pos hp] at this; exact this
        go_wp2
        rw [HW1.out]
        go_region
        generalize hnl : (if ck < lo then ck else lo) = nlo
        generalize hnh : (if hi < ck then ck else hi) = nhi
        have HL' : Hid (lowOf (gs.take (k + 1)) = nlo) := by unfold Hid; rw [← hnl]; exact HL.out
        have HH' : Hid (highOf (gs.take (k + 1)) = nhi) := by unfold Hid; rw [← hnh]; exact HH.out
        clear hnl hnh
        go_wp2_with (at_builtin; refine wpList_append_d rfl _ _ rfl w3.heap.size _ he rfl (hown1.alloc _) (wr.heap.size + 1) ⟨nk, vk⟩ rfl ?_ ?_ ?_ ?_)
        · have := Blk.new w1'.drew #[Value.int .i64 nk, .bool true, .int .i64 vk] 96
          rw [hs1] at this; exact this
        · omega
        · have hs1' : w1'.heap.size = wr.heap.size + 1 := hs1
          simp; omega
        · intro v' w5 hown5 hgrow
          have HO5 : Hid (OwnD w5 w3.heap.size v' (he ++ [⟨nk, vk⟩])) := hown5
          have HB5 : Hid (Below w3.heap.size w3 w5) := Below.grown (w := w1'.drew.alloc _) (hbel1.alloc (by have := hbel1.size; omega) _) hgrow (by have hs1' : w1'.heap.size = wr.heap.size + 1 := hs1; simp; omega) (fun q hq => (World.ownsRow.lt hown1 q hq).1)
          clear hown5 hgrow hown1
          go_wp2
          go_roundw
          case rel => exact ⟨k + 1, by omega, by go_num, by rw [HL'.out], by rw [HH'.out], by rw [HEP.out]; exact HO5.out, HB5.out⟩
          case measure => simp [intOf]; omega
      · have HEP : Hid (held (gs.take (k + 1)) = he) := by have := HE.out; rw [if_neg hp, List.append_nil] at this; exact this
        have hpd : decide ((0 : Int) < ck) = false := by rw [decide_eq_false_iff_not]; exact hp
        have HO1 : Hid (OwnD w1'.drew w3.heap.size u7 he) := hown1
        go_wp2
        rw [HW1.out]
        go_region
        all_goals
          go_wp2
          go_roundw
          case rel => exact ⟨k + 1, by omega, by go_num, by rw [HL.out], by rw [HH.out], by rw [HEP.out]; exact HO1.out, hbel1⟩
          case measure => simp [intOf]; omega
    · have hke : k = gs.length := by omega
      subst hke
      rw [List.take_of_length_le (Nat.le_refl _)] at hown ⊢
      obtain ⟨hi1, hi2⟩ := high_in gs HCF.out
      obtain ⟨lo1, lo2⟩ := low_in gs HCF.out
      obtain ⟨ho, hcap, rfl, hds⟩ := hown.at
      have hlh := held_le gs
      have H30 := judgeInt ho hcap (held gs) (by omega) wr hds
      obtain ⟨al, hal⟩ : ∃ al, agree (vals (held gs)) = al := ⟨_, rfl⟩
      obtain ⟨lo, hlo⟩ : ∃ lo, lowOf gs = lo := ⟨_, rfl⟩
      obtain ⟨hi, hhi⟩ : ∃ hi, highOf gs = hi := ⟨_, rfl⟩
      rw [hal] at H30
      have HH30 : Hid _ := H30
      have HAL : Hid (agree (vals (held gs)) = al) := hal
      have HLO : Hid (lowOf gs = lo) := hlo
      have HHI : Hid (highOf gs = hi) := hhi
      rw [hlo] at lo1 lo2 ⊢
      rw [hhi] at hi1 hi2 ⊢
      have HBEL : Hid (Below w3.heap.size w3 wr) := hbel
      clear H30 hds hown hal hlo hhi hlh hhl
      generalize hhe : held gs = he at *
      have HHE : Hid (held gs = he) := hhe
      clear hhe
      go_wp2_with fail
      refine Calls.mono HH30.out ?_
      rintro e w6 ⟨rfl, hb6⟩
      have hb36 : Below w3.heap.size w3 w6 := HBEL.out.trans (hb6.mono HBEL.out.size)
      have hM := HM3.out.below hb36 HM3.out.lt
      have hN := HN3.out.below hb36 HN3.out.lt
      have HM6 : Hid (Blk w6 w2.heap.size #[.bool a, .bool V, .bool T] 35) := hM
      have HN6 : Hid (Blk w6 w.heap.size #[.bool false, .bool false, .bool false] 35) := hN
      have HB6 : Hid (Below w.heap.size w w6) := b3.trans (hb36.mono b3.size)
      have m0 : w6.cell? ⟨w2.heap.size, 0, none⟩ = some (.bool a) := by rw [hM.cell]; rfl
      have m1 : w6.cell? ⟨w2.heap.size, 1, none⟩ = some (.bool V) := by rw [hM.cell]; rfl
      have m2 : w6.cell? ⟨w2.heap.size, 2, none⟩ = some (.bool T) := by rw [hM.cell]; rfl
      have m3 : w6.frozen? ⟨w2.heap.size, 0, none⟩ = false := hM.free 0
      have f0 : w6.cell? ⟨w.heap.size, 0, none⟩ = some (.bool false) := by rw [hN.cell]; rfl
      have f1 : w6.cell? ⟨w.heap.size, 1, none⟩ = some (.bool false) := by rw [hN.cell]; rfl
      have f2 : w6.cell? ⟨w.heap.size, 2, none⟩ = some (.bool false) := by rw [hN.cell]; rfl
      have f3 : w6.frozen? ⟨w.heap.size, 0, none⟩ = false := hN.free 0
      have f4 : w6.frozen? ⟨w.heap.size, 1, none⟩ = false := hN.free 1
      have f5 : w6.frozen? ⟨w.heap.size, 2, none⟩ = false := hN.free 2
      have hfield := field0
      have n1 : w.heap.size ≠ w2.heap.size := by omega
      have n2 : w2.heap.size ≠ w.heap.size := by omega
      clear hM hN hb6 hb36
      go_wp2
      have hfin := (((HN6.out.set_ne n1 0 (.bool al)).set 0 (.bool al)).set 1 (.bool V)).set 2 (.bool T)
      have hbf := (((HB6.out.setCell (p := ⟨w2.heap.size, 0, none⟩) (Nat.le_of_lt hNl) (.bool al)).setCell (p := ⟨w.heap.size, 0, none⟩) (Nat.le_refl _) (.bool al)).setCell (p := ⟨w.heap.size, 1, none⟩) (Nat.le_refl _) (.bool V)).setCell (p := ⟨w.heap.size, 2, none⟩) (Nat.le_refl _) (.bool T)
      generalize ((((w6.setCell ⟨w2.heap.size, 0, none⟩ (.bool al)).setCell ⟨w.heap.size, 0, none⟩ (.bool al)).setCell ⟨w.heap.size, 1, none⟩ (.bool V)).setCell ⟨w.heap.size, 2, none⟩ (.bool T)) = W at *
      have g0 : W.cell? ⟨w.heap.size, 0, none⟩ = some (.bool al) := by rw [hfin.cell]; rfl
      have g1 : W.cell? ⟨w.heap.size, 1, none⟩ = some (.bool V) := by rw [hfin.cell]; rfl
      have g2 : W.cell? ⟨w.heap.size, 2, none⟩ = some (.bool T) := by rw [hfin.cell]; rfl
      refine bodyPost_ret (v := .tuple #[.agg #[.bool al, .bool V, .bool T], .bool (decide (hi - lo ≤ 1))]) (by simp [results, Try.results26, go_sem, g0, g1, g2]) rfl ⟨by rw [HHE.out, HAL.out, HLO.out, HHI.out], hbf⟩
end Go.Proofs.Qxb6619498a
