import Derived.Test.Qxb6619794aFlatten
import Derived.Deep.RegionLaw
import Derived.Deep.RegionHeld3
import Derived.Deep.AppendLies
import Derived.Deep.DrawnRows
namespace Go.Proofs.Qxb6619794a
open Go.RowKit

/-- A slice's three words. -/
abbrev SV := Option Addr × Nat × Nat
def sv (t : SV) : Value := .slice t.1 t.2.1 t.2.2
def ptr (p : Nat) : Value := .pointer (some ⟨p, 0, none⟩)

/-- The slice at ao holds the slice values. -/
def SlicesAt (w : World) (ao : Option Addr) (vals : List SV) : Prop :=
  ∀ j (h : j < vals.length), ∃ b off, ao = some ⟨b, off, none⟩ ∧ w.cell? ⟨b, off + j, none⟩ = some (sv vals[j])

theorem SlicesAt.below {w w' : World} {ao : Option Addr} {vals : List SV} (h : SlicesAt w ao vals) (hb : Below w.heap.size w w') : SlicesAt w' ao vals := by
  intro j hj
  obtain ⟨b, off, h1, h2⟩ := h j hj
  exact ⟨b, off, h1, cell_below h2 hb⟩

/-- A sortedKeys at block kb: its chunk pointers at ps, chunk j holding the slice vals[j] and the epoch es[j]. -/
def Chunks (B : Nat) (w : World) (ps : List Nat) (vals : List SV) (es : List Int) : Prop :=
  ps.length = vals.length ∧ es.length = vals.length ∧ ps.Nodup ∧
    ∀ j (h : j < vals.length) (h2 : j < ps.length) (h3 : j < es.length), B ≤ ps[j] ∧ Blk w ps[j] #[sv vals[j], .int .u64 es[j]] 59
def SK (B : Nat) (w : World) (kb : Nat) (ps : List Nat) (vals : List SV) (es : List Int) (ep : Int) (sh : Bool) : Prop :=
  B ≤ kb ∧ Chunks B w ps vals es ∧ ∃ v, Blk w kb #[v, .int .u64 ep, .bool sh] 56 ∧ w.ownsRow B 57 1 v ps.length (ps.map ptr)

def RetSK (vals : List SV) (es : List Int) (ep : Int) (sh : Bool) (w : World) (e : Ending) (w' : World) : Prop :=
  ∃ kb ps, e = .returned (.pointer (some ⟨kb, 0, none⟩)) ∧ SK w.heap.size w' kb ps vals es ep sh ∧ Below w.heap.size w w'

theorem heap_alloc2_new (w : World) (o1 o2 : Obj) : ((w.alloc o1).alloc o2).heap[w.heap.size + 1]? = some o2 := by
  have := heap_alloc_new (w.alloc o1) o2
  rwa [World.size_alloc] at this

theorem own_ne {w : World} {B e size : Nat} {v : Value} {n : Nat} {xs : List Value} {b : Nat} {C : Array Value} {t : TypeId} (h : w.ownsRow B e size v n xs) (hb : Blk w b C t) (ht : t ≠ e) : v.ownBlock ≠ some b := by
  obtain ⟨_, h⟩ := h
  rcases h with ⟨rfl, _⟩ | ⟨g, cap, cur, rfl, _, hg, _⟩
  · simp [Value.ownBlock]
  · intro he
    simp [Value.ownBlock] at he
    subst he
    unfold Blk at hb
    rw [hg] at hb; simp at hb; exact ht hb.2.symm

theorem own_ge {w : World} {B e size : Nat} {v : Value} {n : Nat} {xs : List Value} {b : Nat} (h : w.ownsRow B e size v n xs) (hb : b < B) : v.ownBlock ≠ some b := by
  intro he
  have := (h.lt b he).1; omega

theorem frozen_alloc {w : World} {a : Addr} (h : w.frozen? a = false) (hl : a.block < w.heap.size) (o : Obj) : (w.alloc o).frozen? a = false := by
  rw [← h]
  exact World.frozen?_of_block (w := w) (Below.heap_alloc _ _ _ hl)

/-- One step 'append(k.chunks, p)' of a region that draws its order. -/
theorem step_append_ptr {w : World} {ops : Array Oper} {o : Oper} {a : Act} {K : Act → World → Prop} {Q : Exit → Act → World → Prop} {E : Prop} (hgd : o.guard = none) (s x : Operand)
    (ho : o.op = .call { callee := .builtin .append, args := #[s, x], argTypes := #[54, 54] })
    (B : Nat) (v : Value) (n : Nat) (xs : List Value) (hs : a.eval s = v) (hown : w.ownsRow B 57 1 v n xs) (g p : Nat) (hx : a.eval x = .slice (some ⟨g, 0, none⟩) 1 1) (hb : Blk w g #[.pointer (some ⟨p, 0, none⟩)] 57)
    (hn : n ≤ 4000000) (hB : B ≤ w.heap.size)
    (h : ∀ gg cap w', w'.ownsRow B 57 1 (.slice (some ⟨gg, 0, none⟩) (n + 1) cap) (n + 1) (xs ++ [ptr p]) → w.grownBy w' v.ownBlock → K (a.put o.dst (.slice (some ⟨gg, 0, none⟩) (n + 1) cap)) w') :
    if Region.wanted o (yielded ops a.tmps) = true then Oper.wp Try.prog o a w K Q else E := by
  obtain ⟨i0, hi, hz0, hz1, hz2⟩ := info_parts (P := Try.prog) (e := 57) (z := .pointer none) (size := 1) (bytes := 8) (by kernel_rfl)
  refine step_append_lies _ hgd s x 54 ho B 57 i0 (.pointer none) 1 8 Try.underlying54 hi hz0 hz1 hz2 rfl (by omega) v n xs hs hown ⟨g, 0, none⟩ 1 1 [.pointer (some ⟨p, 0, none⟩)] hx rfl
    (World.news_of_block (cs := #[.pointer (some ⟨p, 0, none⟩)]) (t := 57) (fr := (0, 0)) hb) (by simp [Value.oneCell']) (by omega) (by unfold maxLen; omega) (by omega) hB w.heap.size rfl ?_
  intro gg cap w1 h1 h2 _ _
  exact h gg cap w1 h1 h2

theorem Blk.grown {w w' : World} {b : Nat} {C : Array Value} {t : TypeId} {row : Option Nat} (h : Blk w b C t) (hg : w.grownBy w' row) (hne : row ≠ some b) : Blk w' b C t := by
  have hl := h.lt
  unfold Blk at *
  rw [hg.block b hl (Ne.symm hne)]; exact h

theorem Chunks.imp {B : Nat} {w w' : World} {ps : List Nat} {vals : List SV} {es : List Int} (h : Chunks B w ps vals es) (hi : ∀ b C, Blk w b C 59 → Blk w' b C 59) : Chunks B w' ps vals es :=
  ⟨h.1, h.2.1, h.2.2.1, fun j h1 h2 h3 => ⟨(h.2.2.2 j h1 h2 h3).1, hi _ _ (h.2.2.2 j h1 h2 h3).2⟩⟩

theorem Chunks.snoc {B : Nat} {w : World} {ps : List Nat} {vals : List SV} {es : List Int} {p : Nat} {t : SV} {e : Int} (h : Chunks B w ps vals es) (hB : B ≤ p) (hb : Blk w p #[sv t, .int .u64 e] 59) (hn : p ∉ ps) : Chunks B w (ps ++ [p]) (vals ++ [t]) (es ++ [e]) := by
  obtain ⟨h1, h2, h3, h4⟩ := h
  refine ⟨by simp [h1], by simp [h2], ?_, ?_⟩
  · rw [List.nodup_append]
    refine ⟨h3, by simp, fun a ha b hb => ?_⟩
    simp at hb; subst hb; intro e; subst e; exact hn ha
  · intro j hj hj2 hj3
    rcases Nat.lt_or_ge j vals.length with g | g
    · rw [List.getElem_append_left g, List.getElem_append_left (by omega), List.getElem_append_left (by omega)]
      exact h4 j g (by omega) (by omega)
    · have : j = vals.length := by simp at hj; omega
      subst this
      rw [List.getElem_append_right (by omega), List.getElem_append_right (by omega), List.getElem_append_right (by omega)]
      simp only [h1, h2, Nat.sub_self, List.getElem_cons_zero]
      exact ⟨hB, hb⟩

theorem own_set_ne {w : World} {B e size : Nat} {v : Value} {n : Nat} {xs : List Value} {b : Nat} (h : w.ownsRow B e size v n xs) (hne : v.ownBlock ≠ some b) (o : Nat) (u : Value) : (w.setCell ⟨b, o, none⟩ u).ownsRow B e size v n xs := by
  obtain ⟨h1, h⟩ := h
  refine ⟨h1, ?_⟩
  rcases h with h | ⟨g, cap, cur, rfl, hb, hg, r⟩
  · exact .inl h
  · refine .inr ⟨g, cap, cur, rfl, hb, ?_, r⟩
    rw [Below.heap_setCell _ _ _ _ (by intro e; have e' : g = b := e; apply hne; rw [e']; rfl)]; exact hg

theorem make_step {w wr w1 : World} {k : Nat} {ps : List Nat} {vals : List SV} {es : List Int} {v : Value} {ep : Int} {sh : Bool} {gg cap : Nat} {o2 : Obj} {t : SV} (hlt : k < vals.length) (hle : k < es.length) (ht : vals[k] = t)
    (hch : Chunks w.heap.size wr ps (vals.take k) (es.take k)) (hkb : Blk wr w.heap.size #[v, .int .u64 ep, .bool sh] 56) (hown : wr.ownsRow w.heap.size 57 1 v k (ps.map ptr)) (hbel : Below w.heap.size w wr)
    (hgrow : (((wr.alloc (.cells #[sv t, .int .u64 es[k]] 59)).alloc o2).drew).grownBy w1 v.ownBlock)
    (hown1 : w1.ownsRow w.heap.size 57 1 (.slice (some ⟨gg, 0, none⟩) (k + 1) cap) (k + 1) (ps.map ptr ++ [ptr wr.heap.size])) :
    Chunks w.heap.size (w1.setCell ⟨w.heap.size, 0, none⟩ (.slice (some ⟨gg, 0, none⟩) (k + 1) cap)) (ps ++ [wr.heap.size]) (vals.take (k + 1)) (es.take (k + 1)) ∧
    Blk (w1.setCell ⟨w.heap.size, 0, none⟩ (.slice (some ⟨gg, 0, none⟩) (k + 1) cap)) w.heap.size #[.slice (some ⟨gg, 0, none⟩) (k + 1) cap, .int .u64 ep, .bool sh] 56 ∧
    (w1.setCell ⟨w.heap.size, 0, none⟩ (.slice (some ⟨gg, 0, none⟩) (k + 1) cap)).ownsRow w.heap.size 57 1 (.slice (some ⟨gg, 0, none⟩) (k + 1) cap) (k + 1) ((ps ++ [wr.heap.size]).map ptr) ∧
    Below w.heap.size w (w1.setCell ⟨w.heap.size, 0, none⟩ (.slice (some ⟨gg, 0, none⟩) (k + 1) cap)) := by
  have hne : v.ownBlock ≠ some w.heap.size := own_ne hown hkb (by decide)
  have hk1 : Blk w1 w.heap.size #[v, .int .u64 ep, .bool sh] 56 := Blk.grown (w := ((wr.alloc _).alloc o2).drew) ((hkb.alloc _).alloc _) hgrow hne
  have hpass : ∀ b C, Blk wr b C 59 → Blk (w1.setCell ⟨w.heap.size, 0, none⟩ (.slice (some ⟨gg, 0, none⟩) (k + 1) cap)) b C 59 := fun b C hb =>
    (Blk.grown (w := ((wr.alloc _).alloc o2).drew) ((hb.alloc _).alloc _) hgrow (own_ne hown hb (by decide))).set_ne (hb.type_ne hkb (by decide)) _ _
  have hnew : Blk (w1.setCell ⟨w.heap.size, 0, none⟩ (.slice (some ⟨gg, 0, none⟩) (k + 1) cap)) wr.heap.size #[sv t, .int .u64 es[k]] 59 := by
    refine (Blk.grown (w := ((wr.alloc _).alloc o2).drew) ((Blk.new wr _ _).alloc _) hgrow ?_).set_ne (by have := hkb.lt; omega) _ _
    intro he
    have := (hown.lt _ he).2; omega
  have hfresh : wr.heap.size ∉ ps := by
    intro hin
    obtain ⟨q, hq, he⟩ := List.mem_iff_getElem.1 hin
    have hl := hch.1
    have hl2 := hch.2.1
    have := (hch.2.2.2 q (by omega) hq (by omega)).2.lt
    rw [he] at this; exact absurd this (Nat.lt_irrefl _)
  refine ⟨?_, ?_, ?_, ?_⟩
  · rw [take_snoc _ _ hlt, take_snoc _ _ hle, ht]
    exact (hch.imp hpass).snoc hbel.size hnew hfresh
  · exact hk1.set 0 _
  · rw [List.map_append]
    exact own_set_ne hown1 (own_ne hown1 hk1 (by decide)) _ _
  · refine Below.setCell (p := ⟨w.heap.size, 0, none⟩) ?_ (Nat.le_refl _) _
    refine Below.grown (w := ((wr.alloc _).alloc o2).drew) ?_ hgrow ?_ (fun k hk => (hown.lt k hk).1)
    · exact ((hbel.alloc hbel.size _).alloc (by have := hbel.size; simp; omega) _).drew
    · have := hbel.size
      show _ ≤ ((wr.alloc _).alloc o2).heap.size
      simp; omega

attribute [local go_sem ↓] Go.wp_at_zero Go.wp_at_succ

set_option maxRecDepth 100000 in
set_option maxHeartbeats 3200000 in
theorem make_any (ao : Option Addr) (cap : Nat) (vals : List SV) (eo : Option Addr) (ec : Nat) (es : List Int) (ep : Int) (sh : Bool) (hl : vals.length ≤ 2000000) (hel : es.length = vals.length) (w : World) (hv : SlicesAt w ao vals) (he : NumsAt w eo es) :
    Calls Try.prog 15 #[.slice ao vals.length cap, .slice eo es.length ec, .int .u64 ep, .bool sh] w fun e w' => RetSK vals es ep sh w e w' := by
  have HV : Hid (SlicesAt w ao vals) := hv
  have HE : Hid (NumsAt w eo es) := he
  have HEL : Hid (es.length = vals.length) := hel
  clear hv he hel
  obtain ⟨i0, hi, hz0, hz1, hz2⟩ := info_parts (P := Try.prog) (e := 57) (z := .pointer none) (size := 1) (bytes := 8) (by kernel_rfl)
  go_enter Try.func15, Try.ntmps15
  go_wp2
  go_loopw [10] (fun i wr => ∃ (k : Nat) (ps : List Nat) (v : Value), k ≤ vals.length ∧ i = .int .i64 k ∧ Chunks w.heap.size wr ps (vals.take k) (es.take k) ∧ Blk wr w.heap.size #[v, .int .u64 ep, .bool sh] 56 ∧ wr.ownsRow w.heap.size 57 1 v k (ps.map ptr) ∧ Below w.heap.size w wr) (fun i _ => vals.length - (intOf i).toNat)
  case atStart =>
    exact ⟨0, [], .slice none 0 0, Nat.zero_le _, rfl, ⟨rfl, rfl, List.nodup_nil, fun j hj => by simp at hj⟩, Blk.new _ _ _, World.ownsRow_nil _ _ _ _, (Below.refl _ _).alloc (Nat.le_refl _) _⟩
  case round =>
    obtain ⟨k, ps, v, hk, rfl, hch, hkb, hown, hbel⟩ := hrel
    have HCH : Hid (Chunks w.heap.size wr ps (vals.take k) (es.take k)) := hch
    have HKB : Hid (Blk wr w.heap.size #[v, .int .u64 ep, .bool sh] 56) := hkb
    have HOW : Hid (wr.ownsRow w.heap.size 57 1 v k (ps.map ptr)) := hown
    by_cases hlt : k < vals.length
    · have hle : k < es.length := by rw [HEL.out]; exact hlt
      obtain ⟨b, off, hao, hc⟩ := HV.out.below hbel k hlt
      subst hao
      obtain ⟨eb, eoff, heo, hc2⟩ := HE.out.below hbel k hle
      subst heo
      obtain ⟨c, n, cp, ht⟩ : ∃ c n cp, vals[k] = (c, n, cp) := ⟨_, _, _, rfl⟩
      have HT : Hid (vals[k] = (c, n, cp)) := ht
      rw [ht] at hc
      simp only [sv] at hc
      have hkc : wr.cell? ⟨w.heap.size, 0, none⟩ = some v := by rw [hkb.cell]; rfl
      have hkf : wr.frozen? ⟨w.heap.size, 0, none⟩ = false := hkb.free 0
      have hne : v.ownBlock ≠ some w.heap.size := own_ne hown hkb (by decide)
      have hb1 : b < w.heap.size := by
        obtain ⟨b', off', h1, h2⟩ := HV.out k hlt
        have := cell_lt h2; cases h1; exact this
      have hb2 : eb < w.heap.size := by
        obtain ⟨b', off', h1, h2⟩ := HE.out k hle
        have := cell_lt h2; cases h1; exact this
      have hn1 : v.ownBlock ≠ some b := own_ge hown hb1
      have hn2 : v.ownBlock ≠ some eb := own_ge hown hb2
      have hsz := hkb.lt
      have hfa1 : ∀ o : Obj, (wr.alloc o).frozen? ⟨w.heap.size, 0, none⟩ = false := fun o => frozen_alloc hkf hsz o
      have hfa2 : ∀ o o' : Obj, ((wr.alloc o).alloc o').frozen? ⟨w.heap.size, 0, none⟩ = false := fun o o' => frozen_alloc (hfa1 o) (by simp; omega) o'
      have hca2 : ∀ o o' : Obj, ((wr.alloc o).alloc o').cell? ⟨w.heap.size, 0, none⟩ = some v := fun o o' => (((HKB.out.alloc o).alloc o').cell 0).trans rfl
      have hx0 : (0 : Int) ≤ (k : Int) := Int.natCast_nonneg _
      have hx1 : (k : Int) < (vals.length : Int) := by omega
      have hx2 : (k : Int) < (es.length : Int) := by omega
      clear hch hkb ht
      go_wp2_with fail
      go_region_law ((refine step_append_ptr (by rfl) _ _ (by rfl) w.heap.size v k (ps.map ptr) (by rfl) (((hown.alloc _).alloc _).drew) (wr.heap.size + 1) wr.heap.size (by rfl) (heap_alloc2_new wr _ _) (by omega) (by simp; omega) ?_; intro gg cap w1 hown1 hgrow; have hq1 : w1.cell? ⟨w.heap.size, 0, none⟩ = some v := (by rw [hgrow.cell_far _ (by simp; omega) (Ne.symm hne)]; exact hca2 _ _); have hq2 : w1.frozen? ⟨w.heap.size, 0, none⟩ = false := (by rw [hgrow.frozen_far _ (by simp; omega) (Ne.symm hne)]; exact hfa2 _ _)))
      all_goals
        have hstep := make_step hlt hle HT.out HCH.out HKB.out HOW.out hbel hgrow hown1
        have HST : Hid _ := hstep
        clear hstep hgrow hown1 hq1 hq2
        go_wp2
        go_roundw
        case rel => exact ⟨k + 1, ps ++ [wr.heap.size], _, by omega, by go_num, HST.out.1, HST.out.2.1, HST.out.2.2.1, HST.out.2.2.2⟩
        case measure => simp [intOf]; omega
    · have hke : k = vals.length := by omega
      clear hch hkb hown
      go_wp2
      go_ret
      have h1 := HCH.out
      have h3 := HOW.out
      rw [List.take_of_length_le (by omega), List.take_of_length_le (by rw [HEL.out]; omega)] at h1
      refine ⟨w.heap.size, ps, rfl, ⟨Nat.le_refl _, h1, v, HKB.out, ?_⟩, hbel⟩
      rw [h1.1, ← hke]; exact h3
end Go.Proofs.Qxb6619794a
