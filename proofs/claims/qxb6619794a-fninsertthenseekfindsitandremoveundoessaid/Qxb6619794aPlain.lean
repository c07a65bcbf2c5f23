import Derived.Test.Qxb6619794aKin1
namespace Go.Proofs.Qxb6619794a

theorem WF.size {sss : List (List ByteArray)} (h : WF sss) : ∀ ss ∈ sss, 0 < ss.length ∧ ss.length ≤ 512 := by
  intro ss hs
  obtain ⟨q, hq, rfl⟩ := List.mem_iff_getElem.1 hs
  exact ⟨(h q hq).1, (h q hq).2.1⟩

theorem wf_of {sss : List (List ByteArray)} (h1 : ∀ ss ∈ sss, 0 < ss.length ∧ ss.length ≤ 512) (h2 : Asc sss.flatten) : WF sss := by
  intro ci h
  obtain ⟨q1, q2⟩ := h1 _ (List.getElem_mem h)
  have hsp := split_at sss ci h
  refine ⟨q1, q2, ?_, ?_⟩
  · rw [hsp, List.flatten_append, List.flatten_cons] at h2
    exact h2.right.left
  · intro p hp g1 g2
    have hpl : p < sss.length := by omega
    have hsp2 := split_at sss p hpl
    rw [hsp2, List.flatten_append, List.flatten_cons] at h2
    refine h2.right.cross _ (List.getElem_mem g1) _ ?_
    rw [List.mem_flatten]
    refine ⟨sss[ci], ?_, List.getElem_mem g2⟩
    rw [List.mem_iff_getElem]
    exact ⟨0, by rw [List.length_drop]; omega, by rw [List.getElem_drop]; congr 1⟩

theorem insAt_mid {a c d : List ByteArray} {key : ByteArray} (ha : ∀ s ∈ a, ltB s key = true) (hd : ∀ s ∈ d, ltB s key = false) : insAt (a ++ (c ++ d)) key = a ++ (insAt c key ++ d) := by
  have e : below (a ++ (c ++ d)) key = a.length + below c key := by
    rw [below_append, below_append, below_all ha, below_none hd]; omega
  have hb := below_le c key
  unfold insAt
  rw [e, List.take_length_add_append, List.drop_length_add_append, List.take_append_of_le_length hb, List.drop_append_of_le_length hb]
  simp

theorem asc_insAt {l : List ByteArray} {key : ByteArray} (h : Asc l) (hno : hasB l key = false) : Asc (insAt l key) := by
  have hl : ∀ x ∈ l.take (below l key), ltB x key = true := by
    intro x hx
    obtain ⟨j, hj, hjb, rfl⟩ := mem_take_get hx
    exact (below_iff h hj).2 hjb
  have hr : ∀ y ∈ l.drop (below l key), ltB key y = true := by
    intro y hy
    obtain ⟨j, hj, hjb, rfl⟩ := mem_drop_get hy
    cases hq : ltB key l[j]
    · cases hq2 : ltB l[j] key
      · have e := ltB_total hq hq2
        have : hasB l key = true := hasB_iff.2 (by rw [e]; exact List.getElem_mem hj)
        rw [hno] at this; cases this
      · have := (below_iff h hj).1 hq2; omega
    · rfl
  have hsp : Asc (l.take (below l key) ++ l.drop (below l key)) := by rw [List.take_append_drop]; exact h
  unfold insAt
  refine asc_append hsp.left (asc_cons hsp.right hr) ?_
  intro x hx y hy
  rcases List.mem_cons.1 hy with rfl | hy
  · exact hl x hx
  · exact hsp.cross x hx y hy

theorem set_split {α : Type} (l : List α) (i : Nat) (h : i < l.length) (x : α) : l.set i x = l.take i ++ x :: l.drop (i + 1) := by
  rw [List.set_eq_take_append_cons_drop, if_pos h]

theorem cut_split {α : Type} (a : List α) (x : α) (d : List α) (i : Nat) (h : a.length = i) : (a ++ x :: d).take (i + 1) = a ++ [x] ∧ (a ++ x :: d).drop (i + 1) = d := by
  subst h
  constructor
  · rw [List.take_length_add_append]; simp
  · rw [List.drop_length_add_append]; simp

/-- What insert makes of the chunks: one of two shapes. -/
theorem insSpec_form {sss : List (List ByteArray)} {key : ByteArray} (hw : WF sss) (hn : 0 < sss.length) :
    ∃ (A : List (List ByteArray)) (c : List ByteArray) (D : List (List ByteArray)), sss = A ++ c :: D ∧ (∀ s ∈ A.flatten, ltB s key = true) ∧ (∀ s ∈ D.flatten, ltB s key = false) ∧
      ((c.length + 1 ≤ 512 ∧ insSpec sss key = A ++ insAt c key :: D) ∨ (512 < c.length + 1 ∧ insSpec sss key = A ++ (insAt c key).take ((c.length + 1) / 2) :: (insAt c key).drop ((c.length + 1) / 2) :: D)) := by
  have hci := chunkIx_lt (key := key) hw hn
  have hb1 := chunk_before hw (key := key) hci
  have hb2 := chunk_behind hw (key := key)
  obtain ⟨ci, hc⟩ : ∃ ci, chunkIx sss key = ci := ⟨_, rfl⟩
  rw [hc] at hci hb1 hb2
  have hal : (sss.take ci).length = ci := by rw [List.length_take]; omega
  refine ⟨sss.take ci, sss[ci], sss.drop (ci + 1), split_at sss ci hci, ?_, ?_, ?_⟩
  · intro s hs
    obtain ⟨ss, h1, h2⟩ := List.mem_flatten.1 hs
    obtain ⟨j, hj, hji, rfl⟩ := mem_take_get h1
    exact hb1 j hj hji s h2
  · intro s hs
    obtain ⟨ss, h1, h2⟩ := List.mem_flatten.1 hs
    obtain ⟨j, hj, hji, rfl⟩ := mem_drop_get h1
    exact hb2 j hj (by omega) s h2
  · have hg : sss.getD ci [] = sss[ci] := by simp [hci]
    unfold insSpec
    cases sss with
    | nil => simp at hn
    | cons a l =>
      simp only [hc, hg, insAt_length]
      by_cases hh : (a :: l)[ci].length + 1 ≤ 512
      · exact .inl ⟨hh, by rw [if_pos hh, set_split _ _ hci]⟩
      · refine .inr ⟨by omega, ?_⟩
        rw [if_neg hh, set_split _ _ hci]
        obtain ⟨e1, e2⟩ := cut_split ((a :: l).take ci) ((insAt (a :: l)[ci] key).take (((a :: l)[ci].length + 1) / 2)) ((a :: l).drop (ci + 1)) ci hal
        rw [e1, e2]; simp

theorem insSpec_flat {sss : List (List ByteArray)} {key : ByteArray} (hw : WF sss) : (insSpec sss key).flatten = insAt sss.flatten key := by
  rcases Nat.eq_zero_or_pos sss.length with h0 | h0
  · have : sss = [] := List.eq_nil_of_length_eq_zero h0
    subst this; simp [insSpec, insAt, below_nil]
  · obtain ⟨A, c, D, hs, ha, hd, h⟩ := insSpec_form (key := key) hw h0
    have e : insAt sss.flatten key = A.flatten ++ (insAt c key ++ D.flatten) := by
      rw [hs, List.flatten_append, List.flatten_cons]; exact insAt_mid ha hd
    rw [e]
    rcases h with ⟨_, h⟩ | ⟨_, h⟩
    · rw [h]; simp
    · rw [h, List.flatten_append, List.flatten_cons, List.flatten_cons, ← List.append_assoc (List.take _ _), List.take_append_drop]

theorem insSpec_len {sss : List (List ByteArray)} {key : ByteArray} (hw : WF sss) : sss.length ≤ (insSpec sss key).length ∧ (insSpec sss key).length ≤ sss.length + 1 := by
  rcases Nat.eq_zero_or_pos sss.length with h0 | h0
  · have : sss = [] := List.eq_nil_of_length_eq_zero h0
    subst this; simp [insSpec]
  · obtain ⟨A, c, D, hs, ha, hd, h⟩ := insSpec_form (key := key) hw h0
    rcases h with ⟨_, h⟩ | ⟨_, h⟩
    · rw [h, hs]; simp
    · rw [h, hs]; simp; omega

theorem insSpec_wf {sss : List (List ByteArray)} {key : ByteArray} (hw : WF sss) (hno : hasB sss.flatten key = false) : WF (insSpec sss key) := by
  refine wf_of ?_ (by rw [insSpec_flat hw]; exact asc_insAt hw.flat_asc hno)
  rcases Nat.eq_zero_or_pos sss.length with h0 | h0
  · have : sss = [] := List.eq_nil_of_length_eq_zero h0
    subst this; simp [insSpec]
  · obtain ⟨A, c, D, hs, ha, hd, h⟩ := insSpec_form (key := key) hw h0
    have hz := hw.size
    have hc := hz c (by rw [hs]; simp)
    have hlen := insAt_length c key
    intro ss hss
    rcases h with ⟨hl, h⟩ | ⟨hl, h⟩
    · rw [h] at hss
      rcases List.mem_append.1 hss with g | g
      · exact hz ss (by rw [hs]; simp [g])
      · rcases List.mem_cons.1 g with rfl | g
        · omega
        · exact hz ss (by rw [hs]; simp [g])
    · rw [h] at hss
      rcases List.mem_append.1 hss with g | g
      · exact hz ss (by rw [hs]; simp [g])
      · rcases List.mem_cons.1 g with rfl | g
        · rw [List.length_take]; omega
        · rcases List.mem_cons.1 g with rfl | g
          · rw [List.length_drop]; omega
          · exact hz ss (by rw [hs]; simp [g])
end Go.Proofs.Qxb6619794a
