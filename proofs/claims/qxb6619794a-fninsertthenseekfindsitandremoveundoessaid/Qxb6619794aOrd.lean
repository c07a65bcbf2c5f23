import Derived.Test.Qxb6619794aSeek
namespace Go.Proofs.Qxb6619794a

theorem below_append (a b : List ByteArray) (key : ByteArray) : below (a ++ b) key = below a key + below b key := by
  simp [below, List.filter_append]
theorem below_cons (a : ByteArray) (l : List ByteArray) (key : ByteArray) : below (a :: l) key = (if ltB a key = true then 1 else 0) + below l key := by
  unfold below
  by_cases h : ltB a key = true
  · simp [h]; omega
  · simp [h]
theorem below_nil (key : ByteArray) : below [] key = 0 := rfl

theorem Asc.tail {a : ByteArray} {l : List ByteArray} (h : Asc (a :: l)) : Asc l := fun j hj => h (j + 1) (by simp; omega)
theorem Asc.head {a : ByteArray} {l : List ByteArray} (h : Asc (a :: l)) : ∀ s ∈ l, ltB a s = true := by
  intro s hs
  obtain ⟨q, hq, rfl⟩ := List.mem_iff_getElem.1 hs
  exact h.lt 0 (q + 1) (by omega) (by simp; omega)
theorem asc_cons {a : ByteArray} {l : List ByteArray} (h : Asc l) (ha : ∀ s ∈ l, ltB a s = true) : Asc (a :: l) := by
  intro j hj
  cases j with
  | zero => exact ha _ (List.getElem_mem _)
  | succ j => exact h j (by simpa using hj)
theorem asc_nil : Asc [] := fun j hj => by simp at hj

theorem asc_append {a b : List ByteArray} (ha : Asc a) (hb : Asc b) (hab : ∀ x ∈ a, ∀ y ∈ b, ltB x y = true) : Asc (a ++ b) := by
  induction a with
  | nil => exact hb
  | cons x l ih =>
    rw [List.cons_append]
    refine asc_cons (ih ha.tail fun y hy => hab y (List.mem_cons_of_mem _ hy)) fun s hs => ?_
    rcases List.mem_append.1 hs with h | h
    · exact ha.head s h
    · exact hab x List.mem_cons_self s h

theorem Asc.left {a b : List ByteArray} (h : Asc (a ++ b)) : Asc a := fun j hj => by
  have := h j (by rw [List.length_append]; omega)
  rwa [List.getElem_append_left (by omega), List.getElem_append_left hj] at this
theorem Asc.right {a b : List ByteArray} (h : Asc (a ++ b)) : Asc b := by
  induction a with
  | nil => exact h
  | cons x l ih => exact ih h.tail
theorem Asc.cross {a b : List ByteArray} (h : Asc (a ++ b)) : ∀ x ∈ a, ∀ y ∈ b, ltB x y = true := by
  intro x hx y hy
  obtain ⟨p, hp, rfl⟩ := List.mem_iff_getElem.1 hx
  obtain ⟨q, hq, rfl⟩ := List.mem_iff_getElem.1 hy
  have := h.lt p (a.length + q) (by omega) (by rw [List.length_append]; omega)
  rw [List.getElem_append_left hp, List.getElem_append_right (by omega)] at this
  simpa using this

/-- In an ascending list the keys below stand first. -/
theorem below_iff {key : ByteArray} : ∀ {ss : List ByteArray}, Asc ss → ∀ {t : Nat} (ht : t < ss.length), (ltB ss[t] key = true ↔ t < below ss key)
  | [], _, _, ht => by simp at ht
  | a :: l, hA, t, ht => by
    rw [below_cons]
    by_cases ha : ltB a key = true
    · rw [if_pos ha]
      cases t with
      | zero => simp [ha]; omega
      | succ t =>
        have := below_iff (key := key) hA.tail (t := t) (by simpa using ht)
        rw [List.getElem_cons_succ, this]; omega
    · rw [if_neg ha]
      have hz : below l key = 0 := by
        unfold below
        rw [List.filter_eq_nil_iff.2]; · rfl
        intro s hs hk
        exact ha (ltB_trans (hA.head s hs) hk)
      rw [hz]
      constructor
      · intro h
        cases t with
        | zero => exact absurd h ha
        | succ t =>
          rw [List.getElem_cons_succ] at h
          exact absurd (ltB_trans (hA.head _ (List.getElem_mem _)) h) ha
      · intro h; omega

theorem below_all {l : List ByteArray} {key : ByteArray} (h : ∀ s ∈ l, ltB s key = true) : below l key = l.length := by
  unfold below; rw [List.filter_eq_self.2 h]
theorem below_none {l : List ByteArray} {key : ByteArray} (h : ∀ s ∈ l, ltB s key = false) : below l key = 0 := by
  unfold below; rw [List.filter_eq_nil_iff.2]; · rfl
  intro s hs; rw [h s hs]; simp

theorem split_at {α : Type} (l : List α) (i : Nat) (h : i < l.length) : l = l.take i ++ l[i] :: l.drop (i + 1) := by
  rw [← List.drop_eq_getElem_cons h, List.take_append_drop]

theorem mem_take_get {α : Type} {l : List α} {i : Nat} {x : α} (h : x ∈ l.take i) : ∃ j, ∃ hj : j < l.length, j < i ∧ l[j] = x := by
  obtain ⟨q, hq, rfl⟩ := List.mem_iff_getElem.1 h
  simp at hq
  exact ⟨q, by omega, by omega, by simp⟩
theorem mem_drop_get {α : Type} {l : List α} {i : Nat} {x : α} (h : x ∈ l.drop i) : ∃ j, ∃ hj : j < l.length, i ≤ j ∧ l[j] = x := by
  obtain ⟨q, hq, rfl⟩ := List.mem_iff_getElem.1 h
  simp at hq
  exact ⟨i + q, by omega, by omega, by simp⟩

/-- Everything before chunk ci is below the key and nothing behind it is. -/
theorem below_flat {sss : List (List ByteArray)} {key : ByteArray} {ci : Nat} (hci : ci < sss.length)
    (h1 : ∀ j (h : j < sss.length), j < ci → ∀ s ∈ sss[j], ltB s key = true) (h2 : ∀ j (h : j < sss.length), ci < j → ∀ s ∈ sss[j], ltB s key = false) :
    below sss.flatten key = pre sss ci + below sss[ci] key := by
  conv => lhs; rw [split_at sss ci hci]
  rw [List.flatten_append, List.flatten_cons, below_append, below_append, below_all (l := (sss.take ci).flatten), below_none (l := (sss.drop (ci + 1)).flatten)]
  · rfl
  · intro s hs
    obtain ⟨l, hl, hs⟩ := List.mem_flatten.1 hs
    obtain ⟨j, hj, h, rfl⟩ := mem_drop_get hl
    exact h2 j hj (by omega) s hs
  · intro s hs
    obtain ⟨l, hl, hs⟩ := List.mem_flatten.1 hs
    obtain ⟨j, hj, h, rfl⟩ := mem_take_get hl
    exact h1 j hj h s hs

/-- A key of a chunk is not below the chunk's first, and below the next chunk's first. -/
theorem WF.ge_head {sss : List (List ByteArray)} (hw : WF sss) {j : Nat} (hj : j < sss.length) {s : ByteArray} (hs : s ∈ sss[j]) : ltB s (sss[j][0]'(hw j hj).1) = false := by
  obtain ⟨q, hq, rfl⟩ := List.mem_iff_getElem.1 hs
  cases q with
  | zero => exact ltB_irrefl _
  | succ q => exact ltB_asymm ((hw j hj).2.2.1.lt 0 (q + 1) (by omega) hq)
theorem WF.lt_next {sss : List (List ByteArray)} (hw : WF sss) {j : Nat} (hj : j + 1 < sss.length) {s : ByteArray} (hs : s ∈ sss[j]) : ltB s (sss[j + 1][0]'(hw (j + 1) hj).1) = true := by
  have h1 := (hw j (by omega)).1
  have h2 := (hw (j + 1) hj).1
  have hl := hw.last_lt hj h1 h2
  obtain ⟨q, hq, rfl⟩ := List.mem_iff_getElem.1 hs
  rcases Nat.lt_or_ge q (sss[j].length - 1) with g | g
  · exact ltB_trans ((hw j (by omega)).2.2.1.lt q (sss[j].length - 1) g (by omega)) hl
  · have : q = sss[j].length - 1 := by omega
    simp only [this]; exact hl
theorem WF.lt_head {sss : List (List ByteArray)} (hw : WF sss) {j k : Nat} (hk : k < sss.length) (hjk : j < k) {s : ByteArray} (hs : s ∈ sss[j]) : ltB s (sss[k][0]'(hw k hk).1) = true := by
  have h1 := hw.lt_next (j := j) (by omega) hs
  rcases Nat.lt_or_ge (j + 1) k with g | g
  · have := hw.heads_asc.lt (j + 1) k g (by rw [heads_length]; exact hk)
    rw [heads_get (by omega) _ (hw (j + 1) (by omega)).1, heads_get hk _ (hw k hk).1] at this
    exact ltB_trans h1 this
  · have : j + 1 = k := by omega
    subst this; exact h1

theorem WF.flat_asc {sss : List (List ByteArray)} (hw : WF sss) : Asc sss.flatten := by
  have gen : ∀ n, n ≤ sss.length → Asc (sss.take n).flatten := by
    intro n
    induction n with
    | zero => intro _; exact asc_nil
    | succ n ih =>
      intro hn
      rw [take_snoc _ _ (by omega), List.flatten_append]
      refine asc_append (ih (by omega)) (by simpa using (hw n (by omega)).2.2.1) ?_
      intro x hx y hy
      obtain ⟨l, hl, hx⟩ := List.mem_flatten.1 hx
      obtain ⟨j, hj, h, rfl⟩ := mem_take_get hl
      simp at hy
      have h1 := hw.lt_head (k := n) (by omega) h hx
      have h2 := hw.ge_head (j := n) (by omega) hy
      cases h3 : ltB x y
      · -- y ≤ x < head ≤ y
        cases h4 : ltB y x
        · have := ltB_total h3 h4; subst this; rw [h1] at h2; cases h2
        · have := ltB_trans h4 h1; rw [this] at h2; cases h2
      · rfl
  have := gen sss.length (Nat.le_refl _)
  rwa [List.take_of_length_le (Nat.le_refl _)] at this

/-- What chunkIx says of the order. -/
theorem chunk_before {sss : List (List ByteArray)} (hw : WF sss) {key : ByteArray} (hci : chunkIx sss key < sss.length) : ∀ j (h : j < sss.length), j < chunkIx sss key → ∀ s ∈ sss[j], ltB s key = true := by
  intro j hj hjc s hs
  have h1 := hw.lt_head hci hjc hs
  have hh : ltB key (sss[chunkIx sss key][0]'(hw _ hci).1) = false := by
    rw [← heads_get hci (by rw [heads_length]; exact hci) (hw _ hci).1]
    have hA := hw.heads_asc
    have hl : chunkIx sss key < (heads sss).length := by rw [heads_length]; exact hci
    by_cases hf : hasB (heads sss) key = true
    · have e : chunkIx sss key = below (heads sss) key := by unfold chunkIx; rw [if_pos hf]
      have hlt := hasB_lt hA hf
      have hat := hasB_at (p := below (heads sss) key) (fun t h ht => (below_iff hA h).2 ht) hA hlt (by
        cases hq : ltB (heads sss)[below (heads sss) key] key
        · rfl
        · have := (below_iff hA hlt).1 hq; omega)
      rw [hf, toList_bs, toList_bs] at hat
      have : (heads sss)[below (heads sss) key] = key := bs_inj (by simpa using hat.symm)
      simp only [e, this]; exact ltB_irrefl _
    · have e : chunkIx sss key = below (heads sss) key - 1 := by unfold chunkIx; rw [if_neg hf]
      exact ltB_asymm ((below_iff hA hl).2 (by omega))
  cases h3 : ltB s key
  · cases h4 : ltB key s
    · have := ltB_total h3 h4; subst this; rw [h1] at hh; cases hh
    · have := ltB_trans h4 h1; rw [this] at hh; cases hh
  · rfl

theorem chunk_behind {sss : List (List ByteArray)} (hw : WF sss) {key : ByteArray} : ∀ j (h : j < sss.length), chunkIx sss key < j → ∀ s ∈ sss[j], ltB s key = false := by
  intro j hj hjc s hs
  have hA := hw.heads_asc
  have hl : j < (heads sss).length := by rw [heads_length]; exact hj
  have hh : ltB (sss[j][0]'(hw j hj).1) key = false := by
    rw [← heads_get hj hl (hw j hj).1]
    cases hq : ltB (heads sss)[j] key
    · rfl
    · have := (below_iff hA hl).1 hq
      unfold chunkIx at hjc
      split at hjc <;> omega
  have h2 := hw.ge_head hj hs
  cases h3 : ltB s key
  · rfl
  · have h0 := (hw j hj).1
    cases h4 : ltB sss[j][0] s
    · have := ltB_total h4 h2; rw [this, h3] at hh; cases hh
    · have := ltB_trans h4 h3; rw [this] at hh; cases hh

/-- Where seek stands: the place of the least key that is not below. -/
theorem seek_place {sss : List (List ByteArray)} (hw : WF sss) {key : ByteArray} (hci : chunkIx sss key < sss.length) :
    (∃ h : (seekPos sss key hci).1 < sss.length, (seekPos sss key hci).2 < sss[(seekPos sss key hci).1].length ∧ pre sss (seekPos sss key hci).1 + (seekPos sss key hci).2 = below sss.flatten key) ∨
    ((seekPos sss key hci).1 = sss.length ∧ (seekPos sss key hci).2 = 0 ∧ below sss.flatten key = sss.flatten.length) := by
  have hb := below_flat hci (chunk_before hw hci) (chunk_behind hw)
  unfold seekPos
  by_cases he : below sss[chunkIx sss key] key = sss[chunkIx sss key].length
  · rw [if_pos he]
    have hp : pre sss (chunkIx sss key + 1) = below sss.flatten key := by rw [pre_step hci, hb, he]
    rcases Nat.lt_or_ge (chunkIx sss key + 1) sss.length with g | g
    · exact .inl ⟨g, (hw _ g).1, by simpa using hp⟩
    · have e : chunkIx sss key + 1 = sss.length := by omega
      refine .inr ⟨e, rfl, ?_⟩
      rw [← hp, e]; simp [pre]
  · rw [if_neg he]
    have := below_le sss[chunkIx sss key] key
    exact .inl ⟨hci, by simp only; omega, by simp only; omega⟩

/-- The string with a NUL behind it. -/
def nulled (key : ByteArray) : ByteArray := key ++ ⟨#[0]⟩

theorem bs_nulled (key : ByteArray) : bs (nulled key) = bs key ++ [0] := by
  unfold nulled bs; simp

theorem lt_nul : ∀ (x y : List UInt8), x < y ++ [0] ↔ x < y ∨ x = y
  | [], [] => by simp
  | [], _ :: _ => by simp
  | a :: x, [] => by
    simp only [List.nil_append, List.cons_lt_cons_iff]
    constructor
    · rintro (h | ⟨_, h⟩)
      · rw [UInt8.lt_iff_toNat_lt] at h; simp at h
      · simp at h
    · simp
  | a :: x, b :: y => by
    simp only [List.cons_append, List.cons_lt_cons_iff, List.cons.injEq, lt_nul x y]
    constructor
    · rintro (h | ⟨h, h2 | h2⟩)
      · exact .inl (.inl h)
      · exact .inl (.inr ⟨h, h2⟩)
      · exact .inr ⟨h, h2⟩
    · rintro ((h | ⟨h, h2⟩) | ⟨h, h2⟩)
      · exact .inl h
      · exact .inr ⟨h, .inl h2⟩
      · exact .inr ⟨h, .inr h2⟩

theorem below_nulled {key : ByteArray} : ∀ {l : List ByteArray}, Asc l → below l (nulled key) = below l key + (if hasB l key = true then 1 else 0)
  | [], _ => rfl
  | a :: l, hA => by
    rw [below_cons, below_cons, below_nulled hA.tail]
    have hlt : ltB a (nulled key) = true ↔ ltB a key = true ∨ a = key := by
      simp only [ltB, decide_eq_true_eq, bs_nulled, lt_nul]
      exact ⟨fun h => h.imp id bs_inj, fun h => h.imp id fun e => by rw [e]⟩
    have hmem : hasB (a :: l) key = true ↔ a = key ∨ hasB l key = true := by
      rw [hasB_iff, hasB_iff, List.mem_cons]
      exact ⟨fun h => h.imp Eq.symm id, fun h => h.imp Eq.symm id⟩
    by_cases he : a = key
    · subst he
      have h0 : hasB l a = false := by
        cases hq : hasB l a
        · rfl
        · rw [hasB_iff] at hq; have := hA.head a hq; rw [ltB_irrefl] at this; cases this
      rw [if_pos (hlt.2 (.inr rfl)), if_pos (hmem.2 (.inl rfl)), h0, ltB_irrefl]
      simp; omega
    · have e1 : (ltB a (nulled key) = true) = (ltB a key = true) := propext (by rw [hlt]; exact ⟨fun h => h.resolve_right he, .inl⟩)
      have e2 : (hasB (a :: l) key = true) = (hasB l key = true) := propext (by rw [hmem]; exact ⟨fun h => h.resolve_left he, .inr⟩)
      simp only [e1, e2]
      omega
end Go.Proofs.Qxb6619794a
