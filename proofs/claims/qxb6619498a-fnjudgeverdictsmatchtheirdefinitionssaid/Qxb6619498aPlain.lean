import Derived.Test.Qxb6619498aJud
namespace Go.Proofs.Qxb6619498a

/-- What the law itself keeps of the held values. -/
def hstep (s : Bool × Int × Int) (g : G) : Bool × Int × Int :=
  if 0 < g.conf then (if s.1 then (true, (if g.val < s.2.1 then g.val else s.2.1), (if s.2.2 < g.val then g.val else s.2.2)) else (true, g.val, g.val)) else s
def hst (gs : List G) : Bool × Int × Int := gs.foldl hstep (false, 0, 0)
def sawC (c : Int) (gs : List G) : Bool := gs.any fun g => g.conf == c

theorem hst_step {gs : List G} {k : Nat} (h : k < gs.length) : hst (gs.take (k + 1)) = hstep (hst (gs.take k)) gs[k] := by
  unfold hst; rw [take_snoc _ _ h, List.foldl_append]; rfl
theorem sawC_step {gs : List G} {k : Nat} {c : Int} (h : k < gs.length) : sawC c (gs.take (k + 1)) = (sawC c (gs.take k) || (gs[k].conf == c)) := by
  unfold sawC; rw [take_snoc _ _ h, List.any_append]; simp

def mn (a : Int) (vs : List Int) : Int := vs.foldl (fun m v => if v < m then v else m) a
def mx (a : Int) (vs : List Int) : Int := vs.foldl (fun m v => if m < v then v else m) a

theorem mn_le : ∀ (vs : List Int) (a : Int), mn a vs ≤ a ∧ ∀ v ∈ vs, mn a vs ≤ v
  | [], a => ⟨Int.le_refl _, fun v hv => by simp at hv⟩
  | x :: vs, a => by
    have ⟨h1, h2⟩ := mn_le vs (if x < a then x else a)
    have e : mn a (x :: vs) = mn (if x < a then x else a) vs := rfl
    rw [e]
    refine ⟨?_, fun v hv => ?_⟩
    · refine Int.le_trans h1 ?_; split <;> omega
    · rcases List.mem_cons.1 hv with rfl | hv
      · refine Int.le_trans h1 ?_; split <;> omega
      · exact h2 v hv
theorem le_mx : ∀ (vs : List Int) (a : Int), a ≤ mx a vs ∧ ∀ v ∈ vs, v ≤ mx a vs
  | [], a => ⟨Int.le_refl _, fun v hv => by simp at hv⟩
  | x :: vs, a => by
    have ⟨h1, h2⟩ := le_mx vs (if a < x then x else a)
    have e : mx a (x :: vs) = mx (if a < x then x else a) vs := rfl
    rw [e]
    refine ⟨?_, fun v hv => ?_⟩
    · refine Int.le_trans ?_ h1; split <;> omega
    · rcases List.mem_cons.1 hv with rfl | hv
      · refine Int.le_trans ?_ h1; split <;> omega
      · exact h2 v hv
theorem mn_same : ∀ (vs : List Int) (a : Int), (∀ v ∈ vs, v = a) → mn a vs = a ∧ mx a vs = a
  | [], a, _ => ⟨rfl, rfl⟩
  | x :: vs, a, h => by
    have hx := h x List.mem_cons_self
    subst hx
    have ih := mn_same vs x (fun v hv => h v (List.mem_cons_of_mem _ hv))
    constructor
    · show mn (if x < x then x else x) vs = x
      simpa using ih.1
    · show mx (if x < x then x else x) vs = x
      simpa using ih.2

/-- The law's fold over the grades is a fold over the held values. -/
theorem hst_from : ∀ (gs : List G) (l u : Int), gs.foldl hstep (true, l, u) = (true, mn l (vals (held gs)), mx u (vals (held gs)))
  | [], l, u => rfl
  | g :: gs, l, u => by
    rw [List.foldl_cons]
    by_cases h : 0 < g.conf
    · have e : vals (held (g :: gs)) = g.val :: vals (held gs) := by simp [vals, held, h]
      have e2 : hstep (true, l, u) g = (true, (if g.val < l then g.val else l), (if u < g.val then g.val else u)) := by simp [hstep, h]
      rw [e, e2, hst_from gs]; rfl
    · have e : vals (held (g :: gs)) = vals (held gs) := by simp [vals, held, h]
      have e2 : hstep (true, l, u) g = (true, l, u) := by simp [hstep, h]
      rw [e, e2, hst_from gs]
theorem hst_eq : ∀ (gs : List G), hst gs = match vals (held gs) with | [] => (false, 0, 0) | v :: vs => (true, mn v vs, mx v vs)
  | [] => rfl
  | g :: gs => by
    unfold hst
    rw [List.foldl_cons]
    by_cases h : 0 < g.conf
    · have e : vals (held (g :: gs)) = g.val :: vals (held gs) := by simp [vals, held, h]
      have e2 : hstep (false, 0, 0) g = (true, g.val, g.val) := by simp [hstep, h]
      rw [e, e2, hst_from gs]
    · have e : vals (held (g :: gs)) = vals (held gs) := by simp [vals, held, h]
      have e2 : hstep (false, 0, 0) g = (false, 0, 0) := by simp [hstep, h]
      rw [e, e2]; exact hst_eq gs

theorem agree_hst (gs : List G) : agree (vals (held gs)) = ((hst gs).2.1 == (hst gs).2.2) := by
  rw [hst_eq]
  cases vals (held gs) with
  | nil => rfl
  | cons v vs =>
    show agree (v :: vs) = (mn v vs == mx v vs)
    have h1 := mn_le vs v
    have h2 := le_mx vs v
    by_cases h : ∀ x ∈ vs, x = v
    · obtain ⟨e1, e2⟩ := mn_same vs v h
      rw [e1, e2]
      simp only [agree, List.headD_cons, List.all_cons, beq_self_eq_true, Bool.true_and]
      rw [List.all_eq_true]
      intro x hx; rw [h x hx]; simp
    · have hne : mn v vs ≠ mx v vs := by
        intro e
        apply h
        intro x hx
        have a1 := h1.2 x hx
        have a2 := h2.2 x hx
        have a3 := h1.1
        have a4 := h2.1
        omega
      have e1 : (mn v vs == mx v vs) = false := by rw [beq_eq_false_iff_ne]; exact hne
      rw [e1]
      cases hq : agree (v :: vs)
      · rfl
      · exfalso
        apply h
        intro x hx
        simp only [agree, List.headD_cons] at hq
        rw [List.all_eq_true] at hq
        have := hq x (List.mem_cons_of_mem _ hx)
        simpa using this

theorem low_zero (gs : List G) (h : ∀ g ∈ gs, 0 ≤ g.conf ∧ g.conf ≤ 2) : lowOf gs = 0 ↔ sawC 0 gs = true := by
  unfold lowOf sawC
  have gen : ∀ (l : List G) (m : Int), (∀ g ∈ l, 0 ≤ g.conf ∧ g.conf ≤ 2) → 0 ≤ m → (l.foldl (fun m g => if g.conf < m then g.conf else m) m = 0 ↔ m = 0 ∨ (l.any fun g => g.conf == 0) = true) := by
    intro l
    induction l with
    | nil => intro m _ _; simp
    | cons a l ih =>
      intro m hl hm
      have ha := hl a List.mem_cons_self
      rw [List.foldl_cons, ih _ (fun g hg => hl g (List.mem_cons_of_mem _ hg)) (by split <;> omega), List.any_cons, Bool.or_eq_true]
      by_cases hc : a.conf = 0
      · simp [hc]; left; omega
      · have e : (a.conf == 0) = false := by rw [beq_eq_false_iff_ne]; exact hc
        rw [e]
        simp only [Bool.false_eq_true, false_or]
        constructor
        · rintro (h | h)
          · left; split at h <;> omega
          · exact .inr h
        · rintro (h | h)
          · left; split <;> omega
          · exact .inr h
  rw [gen gs 2 h (by omega)]
  simp
theorem high_two (gs : List G) (h : ∀ g ∈ gs, 0 ≤ g.conf ∧ g.conf ≤ 2) : highOf gs = 2 ↔ sawC 2 gs = true := by
  unfold highOf sawC
  have gen : ∀ (l : List G) (m : Int), (∀ g ∈ l, 0 ≤ g.conf ∧ g.conf ≤ 2) → m ≤ 2 → (l.foldl (fun m g => if m < g.conf then g.conf else m) m = 2 ↔ m = 2 ∨ (l.any fun g => g.conf == 2) = true) := by
    intro l
    induction l with
    | nil => intro m _ _; simp
    | cons a l ih =>
      intro m hl hm
      have ha := hl a List.mem_cons_self
      rw [List.foldl_cons, ih _ (fun g hg => hl g (List.mem_cons_of_mem _ hg)) (by split <;> omega), List.any_cons, Bool.or_eq_true]
      by_cases hc : a.conf = 2
      · simp [hc]; left; omega
      · have e : (a.conf == 2) = false := by rw [beq_eq_false_iff_ne]; exact hc
        rw [e]
        simp only [Bool.false_eq_true, false_or]
        constructor
        · rintro (h | h)
          · left; split at h <;> omega
          · exact .inr h
        · rintro (h | h)
          · left; split <;> omega
          · exact .inr h
  rw [gen gs 0 h (by omega)]
  simp

theorem near_eq (gs : List G) (h : ∀ g ∈ gs, 0 ≤ g.conf ∧ g.conf ≤ 2) : decide (highOf gs - lowOf gs ≤ 1) = !(sawC 0 gs && sawC 2 gs) := by
  have h1 := low_in gs h
  have h2 := high_in gs h
  have h3 := low_zero gs h
  have h4 := high_two gs h
  cases a : sawC 0 gs <;> cases b : sawC 2 gs <;> rw [a] at h3 <;> rw [b] at h4 <;> simp at h3 h4 ⊢ <;> omega
end Go.Proofs.Qxb6619498a
