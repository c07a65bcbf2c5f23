import Derived.Test.Qxb6619498aMsg
namespace Go.Proofs.Qxb6619498a
open Go.RowKit

/-- A message as a row of messages holds it. -/
def sl (n : Nat) (p : Nat × Nat) : Value := .slice (some ⟨p.1, p.2, none⟩) n n

/-- The law's state: the wire, the messages made (ms), what they should read (es), both of the parts in hist. -/
structure Run (L : Nat) (w : World) (P n : Nat) (cur : Int) (v : Value) (cs : List Nat) (ch us : Nat) (F : Nat → Nat) (mv : Value) (ms : List (Nat × Nat)) (ev : Value) (es : List Nat) (hist : List (List Pt)) : Prop where
  wire : Wire L w P n cur v cs ch us F
  made : w.ownsRow L 41 1 mv ms.length (ms.map (sl n))
  exps : w.ownsRow L 41 1 ev es.length (es.map fun b => sl n (b, 0))
  sep : ∀ q, mv.ownBlock = some q → ev.ownBlock ≠ some q
  mat : ∀ s (h : s < ms.length), cs[s / 64]? = some ms[s].1 ∧ ms[s].2 = s % 64 * n
  eat : ∀ s (h : s < es.length), es[s] ∉ cs ∧ ∃ qs, hist[s]? = some qs ∧ Blk w es[s] (wordsOf n fun l => one l qs) 54
  fat : ∀ s qs, hist[s]? = some qs → ∀ l, l < n → F (s * n + l) = one l qs

theorem own_keep {w w' : World} {L e : Nat} {v : Value} {n : Nat} {xs : List Value} (h : w.ownsRow L e 1 v n xs) (hk : ∀ q cur, v.ownBlock = some q → Blk w q cur e → Blk w' q cur e) : w'.ownsRow L e 1 v n xs := by
  refine ⟨h.1, ?_⟩
  rcases h.2 with hn | ⟨q, cap, cur, rfl, hq, hg, r⟩
  · exact .inl hn
  · exact .inr ⟨q, cap, cur, rfl, hq, hk q cur rfl hg, r⟩
theorem own_blk {w : World} {L e : Nat} {v : Value} {n : Nat} {xs : List Value} {q : Nat} (h : w.ownsRow L e 1 v n xs) (hq : v.ownBlock = some q) : ∃ cur, Blk w q cur e := by
  rcases h.2 with ⟨rfl, _⟩ | ⟨g, cap, cur, rfl, _, hg, _⟩
  · simp [Value.ownBlock] at hq
  · simp [Value.ownBlock] at hq
    subst hq
    exact ⟨cur, hg⟩

section
variable {L : Nat} {w w' : World} {P n : Nat} {cur : Int} {v : Value} {cs : List Nat} {ch us : Nat} {F : Nat → Nat} {mv : Value} {ms : List (Nat × Nat)} {ev : Value} {es : List Nat} {hist : List (List Pt)}

theorem Wire.not_cs (h : Wire L w P n cur v cs ch us F) {b : Nat} {C : Array Value} {t : TypeId} (hb : Blk w b C t) (ht : t ≠ 54) : b ∉ cs := by
  intro hm
  obtain ⟨q, hq, he⟩ := List.mem_iff_getElem.1 hm
  have := h.chk q hq
  rw [he] at this
  exact hb.type_ne this ht rfl

theorem Run.below (h : Run L w P n cur v cs ch us F mv ms ev es hist) (hb : Below w.heap.size w w') : Run L w' P n cur v cs ch us F mv ms ev es hist :=
  ⟨h.wire.below hb, own_keep h.made fun _ _ _ g => g.below hb g.lt, own_keep h.exps fun _ _ _ g => g.below hb g.lt, h.sep, h.mat, fun s hs => by
    obtain ⟨h1, qs, h2, h3⟩ := h.eat s hs
    exact ⟨h1, qs, h2, h3.below hb h3.lt⟩, h.fat⟩

/-- Behind a call of message. -/
theorem Run.msg {qs : List Pt} {s : Nat} {r : Int} {v' : Value} {cs' : List Nat} {ch' us' : Nat} (h : Run L w P n cur v cs ch us F mv ms ev es hist) (hW : Wire L w' P n r v' cs' ch' us' (lay n s qs F)) (hs : hist.length = s)
    (hcs : cs' = cs ∨ (s / 64 = cs.length ∧ ∃ N, w.heap.size ≤ N ∧ cs' = cs ++ [N])) (hP : Pass cs w w') : Run L w' P n r v' cs' ch' us' (lay n s qs F) mv ms ev es (hist ++ [qs]) := by
  refine ⟨hW, own_keep h.made fun q C hq g => hP q C 41 (by decide) (by decide) (h.wire.not_cs g (by decide)) g, own_keep h.exps fun q C hq g => hP q C 41 (by decide) (by decide) (h.wire.not_cs g (by decide)) g, h.sep, ?_, ?_, ?_⟩
  · intro j hj
    obtain ⟨h1, h2⟩ := h.mat j hj
    refine ⟨?_, h2⟩
    rcases hcs with rfl | ⟨_, N, _, rfl⟩
    · exact h1
    · rw [List.getElem?_append_left]
      · exact h1
      · exact (List.getElem?_eq_some_iff.1 h1).1
  · intro j hj
    obtain ⟨h1, q, h2, h3⟩ := h.eat j hj
    refine ⟨?_, q, ?_, hP _ _ 54 (by decide) (by decide) h1 h3⟩
    · rcases hcs with rfl | ⟨_, N, hN, rfl⟩
      · exact h1
      · intro hm
        rcases List.mem_append.1 hm with g | g
        · exact h1 g
        · simp at g; have := h3.lt; omega
    · rw [List.getElem?_append_left]
      · exact h2
      · exact (List.getElem?_eq_some_iff.1 h2).1
  · intro j q hq l hl
    unfold lay
    rcases Nat.lt_or_ge j hist.length with g | g
    · rw [List.getElem?_append_left g] at hq
      have h1 := h.fat j q hq l hl
      rw [if_neg, h1]
      intro ⟨g1, _⟩
      have := Nat.mul_le_mul_right n (show j + 1 ≤ s by omega)
      rw [Nat.add_mul, Nat.one_mul] at this
      omega
    · have hj : j = hist.length := by
        have := (List.getElem?_eq_some_iff.1 hq).1
        simp at this; omega
      rw [List.getElem?_append_right g, hj] at hq
      simp at hq
      subst hq
      rw [hj, hs]
      rw [if_pos]
      · congr 1; omega
      · refine ⟨by omega, ?_⟩
        rw [Nat.add_mul, Nat.one_mul]; omega

/-- Behind 'made = append(made, m)'. -/
theorem Run.addm {o : Obj} {g cap : Nat} {p : Nat × Nat} (h : Run L w P n cur v cs ch us F mv ms ev es hist) (hgr : (w.alloc o).grownBy w' mv.ownBlock)
    (hown : w'.ownsRow L 41 1 (.slice (some ⟨g, 0, none⟩) (ms.length + 1) cap) (ms.length + 1) (ms.map (sl n) ++ [sl n p])) (hg : mv.ownBlock = some g ∨ g = (w.alloc o).heap.size) (hp : cs[ms.length / 64]? = some p.1 ∧ p.2 = ms.length % 64 * n) :
    Run L w' P n cur v cs ch us F (.slice (some ⟨g, 0, none⟩) (ms.length + 1) cap) (ms ++ [p]) ev es hist := by
  have keep : ∀ b C t, mv.ownBlock ≠ some b → Blk w b C t → Blk w' b C t := fun b C t hne hb => (hb.alloc o).grown hgr hne
  refine ⟨h.wire.imp (fun hb => keep _ _ _ (own_ne h.made hb (by decide)) hb) (fun _ => own_keep h.wire.own fun q C _ hb => keep _ _ _ (own_ne h.made hb (by decide)) hb) (fun b _ C hb => keep _ _ _ (own_ne h.made hb (by decide)) hb), ?_,
    own_keep h.exps fun q C hq hb => keep _ _ _ (fun he => h.sep q he hq) hb, ?_, ?_, fun s hs => ?_, h.fat⟩
  · rw [List.length_append, List.length_singleton, List.map_append]
    exact hown
  · intro q hq he
    simp [Value.ownBlock] at hq
    subst hq
    rcases hg with hg | hg
    · exact h.sep _ hg he
    · have := (h.exps.lt _ he).2
      rw [hg] at this; simp at this; omega
  · intro s hs
    rcases Nat.lt_or_ge s ms.length with g | g
    · rw [List.getElem_append_left g]; exact h.mat s g
    · have hse : s = ms.length := by simp at hs; omega
      subst hse
      rw [List.getElem_append_right (by omega)]
      simp only [Nat.sub_self, List.getElem_cons_zero]
      exact hp
  · obtain ⟨h1, qs, h2, h3⟩ := h.eat s hs
    exact ⟨h1, qs, h2, keep _ _ _ (own_ne h.made h3 (by decide)) h3⟩

/-- Behind 'expect = append(expect, ..)'. -/
theorem Run.adde {o : Obj} {g cap b : Nat} {qs : List Pt} (h : Run L w P n cur v cs ch us F mv ms ev es hist) (hgr : (w.alloc o).grownBy w' ev.ownBlock)
    (hown : w'.ownsRow L 41 1 (.slice (some ⟨g, 0, none⟩) (es.length + 1) cap) (es.length + 1) ((es.map fun b => sl n (b, 0)) ++ [sl n (b, 0)])) (hg : ev.ownBlock = some g ∨ g = (w.alloc o).heap.size)
    (hb : Blk w b (wordsOf n fun l => one l qs) 54) (hbc : b ∉ cs) (hq : hist[es.length]? = some qs) :
    Run L w' P n cur v cs ch us F mv ms (.slice (some ⟨g, 0, none⟩) (es.length + 1) cap) (es ++ [b]) hist := by
  have keep : ∀ b C t, ev.ownBlock ≠ some b → Blk w b C t → Blk w' b C t := fun b C t hne hb => (hb.alloc o).grown hgr hne
  refine ⟨h.wire.imp (fun hb => keep _ _ _ (own_ne h.exps hb (by decide)) hb) (fun _ => own_keep h.wire.own fun q C _ hb => keep _ _ _ (own_ne h.exps hb (by decide)) hb) (fun b _ C hb => keep _ _ _ (own_ne h.exps hb (by decide)) hb),
    own_keep h.made fun q C hq hb => keep _ _ _ (fun he => h.sep q hq he) hb, ?_, ?_, h.mat, fun s hs => ?_, h.fat⟩
  · rw [List.length_append, List.length_singleton, List.map_append]
    exact hown
  · intro q hq he
    simp [Value.ownBlock] at he
    subst he
    rcases hg with hg | hg
    · exact h.sep _ hq hg
    · have := (h.made.lt _ hq).2
      rw [hg] at this; simp at this; omega
  · rcases Nat.lt_or_ge s es.length with g | g
    · rw [List.getElem_append_left g]
      obtain ⟨h1, qs, h2, h3⟩ := h.eat s g
      exact ⟨h1, qs, h2, keep _ _ _ (own_ne h.exps h3 (by decide)) h3⟩
    · have hse : s = es.length := by simp at hs; omega
      subst hse
      rw [List.getElem_append_right (by omega)]
      simp only [Nat.sub_self, List.getElem_cons_zero]
      exact ⟨hbc, qs, hq, keep _ _ _ (own_ne h.exps hb (by decide)) hb⟩

/-- The rows' values, and what they lead to. -/
theorem Run.read (h : Run L w P n cur v cs ch us F mv ms ev es hist) (hme : ms.length = es.length) {j : Nat} (hj : j < ms.length) :
    ∃ mb mc eb ec b1 o1 b2 f, mv = .slice (some ⟨mb, 0, none⟩) ms.length mc ∧ ev = .slice (some ⟨eb, 0, none⟩) es.length ec ∧ w.cell? ⟨mb, j, none⟩ = some (.slice (some ⟨b1, o1, none⟩) n n) ∧ w.cell? ⟨eb, j, none⟩ = some (.slice (some ⟨b2, 0, none⟩) n n) ∧ WsAt w b1 o1 n f ∧ WsAt w b2 0 n f := by
  obtain ⟨qs, hq1, hq2⟩ := (h.eat j (by omega)).2
  obtain ⟨hm1, hm2⟩ := h.mat j hj
  rcases h.made.2 with ⟨_, h0⟩ | ⟨mb, mc, mcur, rfl, _, _⟩
  · omega
  rcases h.exps.2 with ⟨_, h0⟩ | ⟨eb, ec, ecur, rfl, _, _⟩
  · omega
  refine ⟨mb, mc, eb, ec, ms[j].1, ms[j].2, es[j], fun l => one l qs, rfl, rfl, ?_, ?_, ?_, ?_⟩
  · rw [h.made.cellAt j (by omega)]; simp [sl, hj]
  · rw [h.exps.cellAt j (by omega)]; simp [sl, hme ▸ hj]
  · obtain ⟨hc, he⟩ := List.getElem?_eq_some_iff.1 hm1
    have hk := h.wire.chk _ hc
    rw [he] at hk
    have hjm : j % 64 + 1 ≤ 64 := by have := Nat.mod_lt j (show 0 < 64 by omega); omega
    have hub := Nat.mul_le_mul_right n hjm
    rw [Nat.add_mul, Nat.one_mul] at hub
    refine hk.words (by rw [hm2]; exact hub) fun l hl => ?_
    rw [hm2, ← h.fat j qs hq1 l hl]
    congr 1
    rw [← Nat.add_assoc, ← Nat.mul_assoc, ← Nat.add_mul]
    congr 2
    omega
  · exact hq2.words (by omega) fun l _ => by simp
end

theorem wpList_append_w {w : World} {ops : Array Oper} {rest : List Oper} {o : Oper} {a : Act} {Q : Exit → Act → World → Prop} (hgd : o.guard = none) (s x : Operand)
    (ho : o.op = .call { callee := .builtin .append, args := #[s, x], argTypes := #[38, 38] })
    (B : Nat) (v : Value) (n : Nat) (xs : List Value) (hs : a.eval s = v) (hown : w.ownsRow B 41 1 v n xs) (g : Nat) (u : Value) (hx : a.eval x = .slice (some ⟨g, 0, none⟩) 1 1) (hb : Blk w g #[u] 41) (hu : u.oneCell' = true)
    (hn : n ≤ 2000000) (hB : B ≤ w.heap.size)
    (h : ∀ gg cap w', w'.ownsRow B 41 1 (.slice (some ⟨gg, 0, none⟩) (n + 1) cap) (n + 1) (xs ++ [u]) → w.grownBy w' v.ownBlock → (v.ownBlock = some gg ∨ gg = w.heap.size) → wpList Try.prog ops Q rest (a.put o.dst (.slice (some ⟨gg, 0, none⟩) (n + 1) cap)) w') : wpList Try.prog ops Q (o :: rest) a w := by
  obtain ⟨i0, hi, hz0, hz1, hz2⟩ := info_parts (P := Try.prog) (e := 41) (z := .slice none 0 0) (size := 1) (bytes := 24) (by kernel_rfl)
  refine wpList_append_lies _ hgd s x 38 ho B 41 i0 (.slice none 0 0) 1 24 Try.underlying38 hi hz0 hz1 hz2 rfl (by omega) v n xs hs hown ⟨g, 0, none⟩ 1 1 [u] hx rfl
    (World.news_of_block (cs := #[u]) (t := 41) (fr := (0, 0)) hb) (by simpa using hu) (by omega) (by unfold maxLen; omega) (by omega) hB w.heap.size rfl ?_
  intro gg cap w1 h1 h2 h3 _
  exact h gg cap w1 h1 h2 h3
end Go.Proofs.Qxb6619498a
