import Derived.Test.Qxb6619498aBase
namespace Go.Proofs.Qxb6619498a

/-- A part: its leader's place and its code. -/
abbrev Pt := Nat × Nat

/-- How many parts name place l. -/
def cnt (l : Nat) (qs : List Pt) : Nat := qs.foldl (fun c q => if q.1 = l then c + 1 else c) 0
/-- The code of the last part that names place l. -/
def cod (l : Nat) (qs : List Pt) : Nat := qs.foldl (fun c q => if q.1 = l then q.2 else c) 0
/-- The code of the one part that names place l. -/
def one (l : Nat) (qs : List Pt) : Nat := if cnt l qs = 1 then cod l qs else 0
/-- Place l of a message in the making. -/
def mark (l : Nat) (qs : List Pt) : Nat := if cnt l qs = 0 then 0 else if cnt l qs = 1 then cod l qs else 4294967295
def PtsIn (n : Nat) (qs : List Pt) : Prop := ∀ q ∈ qs, q.1 < n ∧ 1 ≤ q.2 ∧ q.2 ≤ 4294967294

theorem cnt_nil (l : Nat) : cnt l [] = 0 := rfl
theorem cod_nil (l : Nat) : cod l [] = 0 := rfl
theorem cnt_snoc (l : Nat) (qs : List Pt) (q : Pt) : cnt l (qs ++ [q]) = if q.1 = l then cnt l qs + 1 else cnt l qs := by
  unfold cnt; rw [List.foldl_append]; rfl
theorem cod_snoc (l : Nat) (qs : List Pt) (q : Pt) : cod l (qs ++ [q]) = if q.1 = l then q.2 else cod l qs := by
  unfold cod; rw [List.foldl_append]; rfl
theorem cnt_step (l : Nat) {qs : List Pt} {k : Nat} (h : k < qs.length) : cnt l (qs.take (k + 1)) = if qs[k].1 = l then cnt l (qs.take k) + 1 else cnt l (qs.take k) := by
  rw [take_snoc _ _ h, cnt_snoc]
theorem cod_step (l : Nat) {qs : List Pt} {k : Nat} (h : k < qs.length) : cod l (qs.take (k + 1)) = if qs[k].1 = l then qs[k].2 else cod l (qs.take k) := by
  rw [take_snoc _ _ h, cod_snoc]
theorem PtsIn.take {n : Nat} {qs : List Pt} (h : PtsIn n qs) (k : Nat) : PtsIn n (qs.take k) := fun q hq => h q (List.mem_of_mem_take hq)

theorem snoc_ind {α : Type} {motive : List α → Prop} (h0 : motive []) (hs : ∀ l a, motive l → motive (l ++ [a])) (l : List α) : motive l := by
  have h : ∀ l : List α, motive l.reverse := fun l => by
    induction l with
    | nil => exact h0
    | cons a l ih => rw [List.reverse_cons]; exact hs _ _ ih
  have := h l.reverse
  rwa [List.reverse_reverse] at this

theorem cnt_le (l : Nat) (qs : List Pt) : cnt l qs ≤ qs.length := by
  refine snoc_ind (motive := fun qs => cnt l qs ≤ qs.length) (by simp [cnt]) (fun qs q ih => ?_) qs
  rw [cnt_snoc, List.length_append, List.length_singleton]; split <;> omega
theorem cod_in {n l : Nat} {qs : List Pt} (h : PtsIn n qs) : cnt l qs = 0 ∨ (1 ≤ cod l qs ∧ cod l qs ≤ 4294967294) := by
  refine snoc_ind (motive := fun qs => PtsIn n qs → cnt l qs = 0 ∨ (1 ≤ cod l qs ∧ cod l qs ≤ 4294967294)) (fun _ => .inl rfl) (fun qs q ih h => ?_) qs h
  rw [cnt_snoc, cod_snoc]
  have hq := h q (by simp)
  have ih' := ih fun p hp => h p (List.mem_append_left _ hp)
  split
  · exact .inr hq.2
  · exact ih'
theorem cod_zero {l : Nat} {qs : List Pt} (h : cnt l qs = 0) : cod l qs = 0 := by
  revert h
  refine snoc_ind (motive := fun qs => cnt l qs = 0 → cod l qs = 0) (fun _ => rfl) (fun qs q ih h => ?_) qs
  rw [cnt_snoc] at h
  rw [cod_snoc]
  split <;> simp_all
theorem cod_le {n l : Nat} {qs : List Pt} (h : PtsIn n qs) : cod l qs ≤ 4294967294 := by
  rcases cod_in (l := l) h with g | g
  · rw [cod_zero g]; omega
  · exact g.2

theorem mark_nil (l : Nat) : mark l [] = 0 := rfl
theorem mark_step {n : Nat} (l : Nat) {qs : List Pt} {k : Nat} (hin : PtsIn n qs) (h : k < qs.length) :
    mark l (qs.take (k + 1)) = if qs[k].1 = l then (if mark l (qs.take k) = 0 then qs[k].2 else 4294967295) else mark l (qs.take k) := by
  have hc := cod_in (l := l) (hin.take k)
  unfold mark
  rw [cnt_step l h, cod_step l h]
  generalize cnt l (qs.take k) = c at *
  generalize cod l (qs.take k) = d at *
  by_cases h1 : qs[k].1 = l
  · simp only [h1, if_true]
    rcases Nat.lt_or_ge 0 c with g | g
    · have g0 : c ≠ 0 := by omega
      by_cases g1 : c = 1
      · subst g1; simp; omega
      · simp [g0, g1]
    · have : c = 0 := by omega
      subst this; simp
  · simp [h1]
theorem mark_le {n : Nat} (l : Nat) {qs : List Pt} (hin : PtsIn n qs) : mark l qs ≤ 4294967295 := by
  have := cod_le (l := l) hin
  unfold mark; split <;> (try split) <;> omega
theorem mark_one (l : Nat) {qs : List Pt} (h : cnt l qs ≤ 1) : mark l qs = one l qs := by
  unfold mark one
  rcases Nat.lt_or_ge 0 (cnt l qs) with g | g
  · have : cnt l qs = 1 := by omega
    simp [this]
  · have : cnt l qs = 0 := by omega
    simp [this]
theorem one_le {n : Nat} (l : Nat) {qs : List Pt} (hin : PtsIn n qs) : one l qs ≤ 4294967294 := by
  have := cod_le (l := l) hin
  unfold one; split <;> omega

/-- Place l behind k rounds of the second loop. -/
def fin2 (l : Nat) (qs : List Pt) (k : Nat) : Nat := if mark l qs = 4294967295 ∧ 1 ≤ cnt l (qs.take k) then 0 else mark l qs
theorem fin2_zero (l : Nat) (qs : List Pt) : fin2 l qs 0 = mark l qs := by
  unfold fin2; simp [cnt]
theorem fin2_step (l : Nat) {qs : List Pt} {k : Nat} (h : k < qs.length) :
    fin2 l qs (k + 1) = if qs[k].1 = l then (if fin2 l qs k = 4294967295 then 0 else fin2 l qs k) else fin2 l qs k := by
  unfold fin2
  rw [cnt_step l h]
  by_cases h1 : qs[k].1 = l
  · simp only [h1, if_true]
    by_cases h2 : mark l qs = 4294967295
    · by_cases h3 : 1 ≤ cnt l (qs.take k)
      · simp [h2, h3]
      · simp [h2, h3]
    · simp [h2]
  · simp [h1]
theorem fin2_end {n : Nat} (l : Nat) {qs : List Pt} (hin : PtsIn n qs) : fin2 l qs qs.length = one l qs := by
  have hc := cod_le (l := l) hin
  unfold fin2 mark one
  rw [List.take_of_length_le (Nat.le_refl _)]
  generalize cnt l qs = c at *
  generalize cod l qs = d at *
  by_cases h0 : c = 0
  · simp [h0]
  · by_cases h1 : c = 1
    · subst h1
      have : d ≠ 4294967295 := by omega
      simp [this]
    · simp [h0, h1]
theorem fin2_le {n : Nat} (l : Nat) {qs : List Pt} (hin : PtsIn n qs) (k : Nat) : fin2 l qs k ≤ 4294967295 := by
  have := mark_le l hin
  unfold fin2; split <;> omega
end Go.Proofs.Qxb6619498a
