import Derived.Test.Qxb6619794aDel
namespace Go.Proofs.Qxb6619794a
open Go.RowKit

/-- The key taken out of its place. -/
def remAt (l : List ByteArray) (key : ByteArray) : List ByteArray := l.take (below l key) ++ l.drop (below l key + 1)

theorem remAt_length {l : List ByteArray} {key : ByteArray} (h : below l key < l.length) : (remAt l key).length + 1 = l.length := by
  simp [remAt]; omega

theorem remAt_mid {a c d : List ByteArray} {key : ByteArray} (ha : ∀ s ∈ a, ltB s key = true) (hd : ∀ s ∈ d, ltB s key = false) (hc : below c key < c.length) : remAt (a ++ (c ++ d)) key = a ++ (remAt c key ++ d) := by
  have e : below (a ++ (c ++ d)) key = a.length + below c key := by
    rw [below_append, below_append, below_all ha, below_none hd]; omega
  unfold remAt
  rw [e, Nat.add_assoc, List.take_length_add_append, List.drop_length_add_append, List.take_append_of_le_length (by omega), List.drop_append_of_le_length (by omega)]
  simp

theorem remAt_insAt {l : List ByteArray} {key : ByteArray} (h : Asc l) : remAt (insAt l key) key = l := by
  have hb := below_le l key
  have e : below (insAt l key) key = below l key := by
    unfold insAt
    rw [below_append, below_cons, ltB_irrefl]
    have h1 : below (l.take (below l key)) key = (l.take (below l key)).length := below_all fun x hx => by
      obtain ⟨j, hj, hjb, rfl⟩ := mem_take_get hx
      exact (below_iff h hj).2 hjb
    have h2 : below (l.drop (below l key)) key = 0 := below_none fun y hy => by
      obtain ⟨j, hj, hjb, rfl⟩ := mem_drop_get hy
      cases hq : ltB l[j] key
      · rfl
      · have := (below_iff h hj).1 hq; omega
    rw [h1, h2, List.length_take]; simp; omega
  have hl : (l.take (below l key)).length = below l key := by rw [List.length_take]; omega
  unfold remAt
  rw [e]
  unfold insAt
  obtain ⟨q1, q2⟩ := cut_split (l.take (below l key)) key (l.drop (below l key)) (below l key) hl
  rw [q2, List.take_append_of_le_length (by omega), List.take_of_length_le (by omega), List.take_append_drop]

/-- What remove leaves. -/
def Rem (sss sss' : List (List ByteArray)) (key : ByteArray) : Prop :=
  sss'.flatten = remAt sss.flatten key ∧ (∀ ss ∈ sss', 0 < ss.length ∧ ss.length ≤ 512) ∧ sss'.length ≤ sss.length

theorem chunk_not {sss : List (List ByteArray)} (hw : WF sss) {key : ByteArray} {j : Nat} (hj : j < sss.length) (hcj : chunkIx sss key < j) : key ∉ sss[j] := by
  intro hin
  have h0 := (hw j hj).1
  have hl : j < (heads sss).length := by rw [heads_length]; exact hj
  have hA := hw.heads_asc
  have e1 := hw.ge_head hj hin
  have e2 := chunk_behind hw (key := key) j hj hcj _ (List.getElem_mem h0)
  have e3 : (heads sss)[j] = key := by rw [heads_get hj hl h0]; exact ltB_total e2 e1
  have hf : hasB (heads sss) key = true := hasB_iff.2 (by rw [← e3]; exact List.getElem_mem hl)
  have e : chunkIx sss key = below (heads sss) key := by unfold chunkIx; rw [if_pos hf]
  rw [e] at hcj
  have hlt := hA.lt _ _ hcj hl
  rw [e3] at hlt
  have := (below_iff hA (key := key) (show below (heads sss) key < (heads sss).length by omega)).1 hlt
  omega

/-- Where the key stands. -/
theorem key_place {sss : List (List ByteArray)} {key : ByteArray} (hw : WF sss) (hin : key ∈ sss.flatten) {ci : Nat} (hc : chunkIx sss key = ci) :
    ∃ hci : ci < sss.length, (∀ s ∈ (sss.take ci).flatten, ltB s key = true) ∧ (∀ s ∈ (sss.drop (ci + 1)).flatten, ltB s key = false) ∧ hasB sss[ci] key = true ∧ below sss[ci] key < sss[ci].length := by
  have hn : 0 < sss.length := by
    cases sss with
    | nil => simp at hin
    | cons a l => simp
  have hci := chunkIx_lt (key := key) hw hn
  have hb1 := chunk_before hw (key := key) hci
  have hb2 := chunk_behind hw (key := key)
  rw [hc] at hci hb1 hb2
  have ha : ∀ s ∈ (sss.take ci).flatten, ltB s key = true := by
    intro s hs
    obtain ⟨ss, h1, h2⟩ := List.mem_flatten.1 hs
    obtain ⟨j, hj, hji, rfl⟩ := mem_take_get h1
    exact hb1 j hj hji s h2
  have hd : ∀ s ∈ (sss.drop (ci + 1)).flatten, ltB s key = false := by
    intro s hs
    obtain ⟨ss, h1, h2⟩ := List.mem_flatten.1 hs
    obtain ⟨j, hj, hji, rfl⟩ := mem_drop_get h1
    exact hb2 j hj (by omega) s h2
  have hsp : sss.flatten = (sss.take ci).flatten ++ (sss[ci] ++ (sss.drop (ci + 1)).flatten) := by
    conv => lhs; rw [split_at sss ci hci]
    rw [List.flatten_append, List.flatten_cons]
  have hmem : key ∈ sss[ci] := by
    rw [hsp] at hin
    rcases List.mem_append.1 hin with g | g
    · have := ha key g; rw [ltB_irrefl] at this; cases this
    · rcases List.mem_append.1 g with g | g
      · exact g
      · exfalso
        obtain ⟨ss, h1, h2⟩ := List.mem_flatten.1 g
        obtain ⟨j, hj, hji, rfl⟩ := mem_drop_get h1
        exact chunk_not hw hj (by omega) h2
  refine ⟨hci, ha, hd, hasB_iff.2 hmem, ?_⟩
  obtain ⟨t, ht, hte⟩ := List.mem_iff_getElem.1 hmem
  rcases Nat.lt_or_ge (below sss[ci] key) sss[ci].length with g | g
  · exact g
  · have := (below_iff (hw ci hci).2.2.1 (key := key) ht).2 (by omega)
    rw [hte, ltB_irrefl] at this; cases this

theorem flat_at {sss : List (List ByteArray)} {ci : Nat} (hci : ci < sss.length) : sss.flatten = (sss.take ci).flatten ++ (sss[ci] ++ (sss.drop (ci + 1)).flatten) := by
  conv => lhs; rw [split_at sss ci hci]
  rw [List.flatten_append, List.flatten_cons]

theorem rem_one {sss : List (List ByteArray)} {key : ByteArray} (hw : WF sss) {ci : Nat} (hci : ci < sss.length) (ha : ∀ s ∈ (sss.take ci).flatten, ltB s key = true) (hd : ∀ s ∈ (sss.drop (ci + 1)).flatten, ltB s key = false) (hb : below sss[ci] key < sss[ci].length) (h1 : sss[ci].length = 1) :
    Rem sss (sss.take ci ++ sss.drop (ci + 1)) key := by
  have he : remAt sss[ci] key = [] := List.eq_nil_of_length_eq_zero (by have := remAt_length hb; omega)
  refine ⟨?_, ?_, ?_⟩
  · rw [flat_at hci, remAt_mid ha hd hb, he, List.flatten_append]; simp
  · intro ss hs
    rcases List.mem_append.1 hs with g | g
    · exact hw.size ss (List.mem_of_mem_take g)
    · exact hw.size ss (List.mem_of_mem_drop g)
  · simp; omega

theorem rem_set {sss : List (List ByteArray)} {key : ByteArray} (hw : WF sss) {ci : Nat} (hci : ci < sss.length) (ha : ∀ s ∈ (sss.take ci).flatten, ltB s key = true) (hd : ∀ s ∈ (sss.drop (ci + 1)).flatten, ltB s key = false) (hb : below sss[ci] key < sss[ci].length) (h1 : 1 < sss[ci].length) :
    Rem sss (sss.set ci (remAt sss[ci] key)) key := by
  have hl := remAt_length hb
  refine ⟨?_, ?_, by simp⟩
  · rw [set_split _ _ hci, flat_at hci, remAt_mid ha hd hb, List.flatten_append, List.flatten_cons]
  · intro ss hs
    rcases List.mem_or_eq_of_mem_set hs with g | g
    · exact hw.size ss g
    · have := hw.size _ (List.getElem_mem hci)
      subst g; omega

theorem rem_merge {sss s1 : List (List ByteArray)} {key : ByteArray} (h : Rem sss s1 key) {j : Nat} (hj : j < s1.length) (hj2 : j + 1 < s1.length) (hm : s1[j].length + s1[j + 1].length ≤ 256) :
    Rem sss ((s1.set j (s1[j] ++ s1[j + 1])).take (j + 1) ++ (s1.set j (s1[j] ++ s1[j + 1])).drop (j + 1 + 1)) key := by
  have hjl : (s1.take j).length = j := by rw [List.length_take]; omega
  have e1 : (s1.set j (s1[j] ++ s1[j + 1])).take (j + 1) ++ (s1.set j (s1[j] ++ s1[j + 1])).drop (j + 1 + 1) = s1.take j ++ (s1[j] ++ s1[j + 1]) :: s1.drop (j + 2) := by
    obtain ⟨q1, q2⟩ := cut_split (s1.take j) (s1[j] ++ s1[j + 1]) (s1.drop (j + 1)) j hjl
    rw [set_split _ _ hj, q1, ← List.drop_drop, q2, List.drop_drop]; simp
  rw [e1]
  obtain ⟨h1, h2, h3⟩ := h
  have hsp : s1 = s1.take j ++ s1[j] :: s1[j + 1] :: s1.drop (j + 2) := by
    conv => lhs; rw [split_at s1 j hj]
    congr 2
    exact List.drop_eq_getElem_cons hj2
  refine ⟨?_, ?_, ?_⟩
  · have hf : s1.flatten = (s1.take j).flatten ++ (s1[j] ++ (s1[j + 1] ++ (s1.drop (j + 2)).flatten)) := by
      conv => lhs; rw [hsp]
      rw [List.flatten_append, List.flatten_cons, List.flatten_cons]
    rw [← h1, hf]; simp
  · intro ss hs
    rcases List.mem_append.1 hs with g | g
    · exact h2 ss (List.mem_of_mem_take g)
    · rcases List.mem_cons.1 g with rfl | g
      · have a1 := h2 _ (List.getElem_mem hj)
        have a2 := h2 _ (List.getElem_mem hj2)
        rw [List.length_append]; omega
      · exact h2 ss (List.mem_of_mem_drop g)
  · simp; omega

theorem rem_wf {sss sss' : List (List ByteArray)} {key : ByteArray} (h : Rem sss sss' key) (hA : Asc (remAt sss.flatten key)) : WF sss' := wf_of h.2.1 (by rw [h.1]; exact hA)
end Go.Proofs.Qxb6619794a
