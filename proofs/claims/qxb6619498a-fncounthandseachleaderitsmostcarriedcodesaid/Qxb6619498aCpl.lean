import Derived.Test.Qxb6619498aWpl
namespace Go.Proofs.Qxb6619498a

/-- How many of the bodies carry code c at place l. -/
def num (l c : Nat) (bs : List (List Nat)) : Nat := bs.foldl (fun k b => if b.getD l 0 = c then k + 1 else k) 0
theorem num_nil (l c : Nat) : num l c [] = 0 := rfl
theorem num_snoc (l c : Nat) (bs : List (List Nat)) (b : List Nat) : num l c (bs ++ [b]) = if b.getD l 0 = c then num l c bs + 1 else num l c bs := by
  unfold num; rw [List.foldl_append]; rfl
theorem num_step (l c : Nat) {bs : List (List Nat)} {k : Nat} (h : k < bs.length) : num l c (bs.take (k + 1)) = if bs[k].getD l 0 = c then num l c (bs.take k) + 1 else num l c (bs.take k) := by
  rw [take_snoc _ _ h, num_snoc]
theorem num_le (l c : Nat) (bs : List (List Nat)) : num l c bs ≤ bs.length := by
  refine snoc_ind (motive := fun bs => num l c bs ≤ bs.length) (by simp [num]) (fun bs b ih => ?_) bs
  rw [num_snoc, List.length_append, List.length_singleton]; split <;> omega

/-- p is the least of the codes of Q that f counts most often, with its count. -/
def IsMost (Q : Nat → Prop) (f : Nat → Nat) (p : Nat × Nat) : Prop :=
  (p = (0, 0) ∧ ∀ c, Q c → 1 ≤ c → f c = 0) ∨ (Q p.1 ∧ 1 ≤ p.1 ∧ f p.1 = p.2 ∧ 0 < p.2 ∧ ∀ c, Q c → 1 ≤ c → f c < p.2 ∨ (f c = p.2 ∧ p.1 ≤ c))
theorem IsMost.unique {Q : Nat → Prop} {f : Nat → Nat} {p q : Nat × Nat} (h : IsMost Q f p) (k : IsMost Q f q) : p = q := by
  rcases h with ⟨rfl, h1⟩ | ⟨h1, h2, h3, h4, h5⟩ <;> rcases k with ⟨rfl, k1⟩ | ⟨k1, k2, k3, k4, k5⟩
  · rfl
  · have := h1 _ k1 k2; omega
  · have := k1 _ h1 h2; omega
  · have a := h5 _ k1 k2
    have b := k5 _ h1 h2
    have e2 : p.2 = q.2 := by omega
    have e1 : p.1 = q.1 := by omega
    exact Prod.ext e1 e2
theorem IsMost.congr {Q Q' : Nat → Prop} {f : Nat → Nat} {p : Nat × Nat} (h : IsMost Q f p) (h1 : ∀ c, Q c → Q' c) (h2 : ∀ c, Q' c → 1 ≤ c → Q c ∨ f c = 0) : IsMost Q' f p := by
  rcases h with ⟨rfl, g⟩ | ⟨g1, g2, g3, g4, g5⟩
  · refine .inl ⟨rfl, fun c hc h => ?_⟩
    rcases h2 c hc h with q | q
    · exact g c q h
    · exact q
  · refine .inr ⟨h1 _ g1, g2, g3, g4, fun c hc h => ?_⟩
    rcases h2 c hc h with q | q
    · exact g5 c q h
    · left; omega
theorem IsMost.start (f : Nat → Nat) : IsMost (fun _ => False) f (0, 0) := .inl ⟨rfl, fun _ h => h.elim⟩

/-- One index of the second loop of count. -/
def upd (m : Nat × Nat) (code k : Nat) : Nat × Nat := if 0 < code ∧ (m.2 < k ∨ (k = m.2 ∧ code < m.1)) then (code, k) else m
theorem IsMost.updS {Q : Nat → Prop} {f : Nat → Nat} {m : Nat × Nat} (h : IsMost Q f m) {code : Nat} (hk : 0 < f code) : IsMost (fun c => Q c ∨ c = code) f (upd m code (f code)) := by
  unfold upd
  by_cases hc : 0 < code ∧ (m.2 < f code ∨ (f code = m.2 ∧ code < m.1))
  · rw [if_pos hc]
    refine .inr ⟨.inr rfl, hc.1, rfl, hk, fun c hq h1 => ?_⟩
    rcases hq with hq | rfl
    · rcases h with ⟨rfl, g⟩ | ⟨g1, g2, g3, g4, g5⟩
      · have := g c hq h1; simp only; omega
      · have := g5 c hq h1; simp only; omega
    · right; exact ⟨rfl, Nat.le_refl _⟩
  · rw [if_neg hc]
    rcases h with ⟨rfl, g⟩ | ⟨g1, g2, g3, g4, g5⟩
    · refine .inl ⟨rfl, fun c hq h1 => ?_⟩
      rcases hq with hq | rfl
      · exact g c hq h1
      · simp only at hc; omega
    · refine .inr ⟨.inl g1, g2, g3, g4, fun c hq h1 => ?_⟩
      rcases hq with hq | rfl
      · exact g5 c hq h1
      · omega

/-- One code of zzMostCarried. -/
def scan (m : Nat × Nat) (c k : Nat) : Nat × Nat := if m.2 < k then (c, k) else m
theorem IsMost.scan {f : Nat → Nat} {m : Nat × Nat} {c : Nat} (hc : 1 ≤ c) (h : IsMost (fun x => x < c) f m) : IsMost (fun x => x < c + 1) f (scan m c (f c)) := by
  unfold Go.Proofs.Qxb6619498a.scan
  by_cases hk : m.2 < f c
  · rw [if_pos hk]
    refine .inr ⟨by simp, hc, rfl, by simp only; omega, fun x hx h1 => ?_⟩
    simp only
    by_cases hxc : x = c
    · subst hxc; right; exact ⟨rfl, Nat.le_refl _⟩
    · rcases h with ⟨rfl, g⟩ | ⟨g1, g2, g3, g4, g5⟩
      · have := g x (by omega) h1; omega
      · have := g5 x (by omega) h1; omega
  · rw [if_neg hk]
    rcases h with ⟨rfl, g⟩ | ⟨g1, g2, g3, g4, g5⟩
    · refine .inl ⟨rfl, fun x hx h1 => ?_⟩
      by_cases hxc : x = c
      · subst hxc; simp only at hk; omega
      · exact g x (by omega) h1
    · refine .inr ⟨by omega, g2, g3, g4, fun x hx h1 => ?_⟩
      by_cases hxc : x = c
      · subst hxc; omega
      · exact g5 x (by omega) h1

/-- What a place carried most often. -/
noncomputable def mostOf (width l : Nat) (bs : List (List Nat)) : Nat × Nat := (List.range (width - 1)).foldl (fun m i => scan m (i + 1) (num l (i + 1) bs)) (0, 0)
theorem mostOf_step (k l : Nat) (bs : List (List Nat)) : (List.range (k + 1)).foldl (fun m i => scan m (i + 1) (num l (i + 1) bs)) (0, 0) = scan ((List.range k).foldl (fun m i => scan m (i + 1) (num l (i + 1) bs)) (0, 0)) (k + 1) (num l (k + 1) bs) := by
  rw [List.range_succ, List.foldl_append]; rfl
theorem mostOf_is (width l : Nat) (bs : List (List Nat)) : IsMost (fun c => c < width) (fun c => num l c bs) (mostOf width l bs) := by
  have gen : ∀ k, IsMost (fun c => c < k + 1) (fun c => num l c bs) ((List.range k).foldl (fun m i => scan m (i + 1) (num l (i + 1) bs)) (0, 0)) := by
    intro k
    induction k with
    | zero => exact .inl ⟨rfl, fun c hc h => by omega⟩
    | succ k ih =>
      rw [mostOf_step]
      exact IsMost.scan (f := fun c => num l c bs) (by omega) ih
  unfold mostOf
  have := gen (width - 1)
  by_cases hw : width = 0
  · subst hw
    exact .inl ⟨rfl, fun c hc => by omega⟩
  · rw [show width - 1 + 1 = width by omega] at this
    exact this

/-- The grading rule. -/
def gradeOf (m k : Nat) (n t : Int) : Int × Int := if n - t ≤ (k : Int) then ((m : Int), 2) else if t + 1 ≤ (k : Int) then ((m : Int), 1) else (0, 0)

/-- The counts: what each index has been met. -/
structure Counted (m width first : Nat) (pre : Nat → List (List Nat)) (C : Nat → Nat) (T : List Nat) : Prop where
  at_ : ∀ b c, b < m → c < width → C (b * width + c) = num (first + b) c (pre b)
  off : ∀ i, m * width ≤ i → C i = 0
  nod : T.Nodup
  lt : ∀ i ∈ T, i < m * width
  mem : ∀ i, C i ≠ 0 → i ∈ T
  pos : ∀ i ∈ T, C i ≠ 0

theorem idx_lt {b m c width : Nat} (hb : b < m) (hc : c < width) : b * width + c < m * width := by
  have := Nat.mul_le_mul_right width (show b + 1 ≤ m by omega)
  rw [Nat.add_mul, Nat.one_mul] at this
  omega
theorem idx_inj {b b' c c' width : Nat} (hc : c < width) (hc' : c' < width) (h : b * width + c = b' * width + c') : b = b' ∧ c = c' := by
  have h1 : (b * width + c) / width = b := by rw [Nat.mul_comm, Nat.mul_add_div (by omega), Nat.div_eq_of_lt hc, Nat.add_zero]
  have h2 : (b' * width + c') / width = b' := by rw [Nat.mul_comm, Nat.mul_add_div (by omega), Nat.div_eq_of_lt hc', Nat.add_zero]
  have hb : b = b' := by rw [← h1, ← h2, h]
  subst hb
  exact ⟨rfl, by omega⟩

/-- One more word met. -/
theorem Counted.step {m width first : Nat} {pre : Nat → List (List Nat)} {C : Nat → Nat} {T : List Nat} (h : Counted m width first pre C T) {b : Nat} (hb : b < m) {body : List Nat} {c : Nat} (hc : body.getD (first + b) 0 = c) (hcw : c < width) :
    Counted m width first (fun x => if x = b then pre b ++ [body] else pre x) (fun i => if i = b * width + c then C i + 1 else C i) (if C (b * width + c) = 0 then T ++ [b * width + c] else T) := by
  refine ⟨?_, ?_, ?_, ?_, ?_, ?_⟩
  · intro b' c' hb' hc'
    by_cases hbb : b' = b
    · subst hbb
      rw [if_pos rfl, num_snoc, hc]
      by_cases hcc : c' = c
      · subst hcc; rw [if_pos rfl, if_pos rfl, h.at_ _ _ hb' hc']
      · rw [if_neg (by omega), if_neg (Ne.symm hcc), h.at_ _ _ hb' hc']
    · rw [if_neg hbb, if_neg, h.at_ _ _ hb' hc']
      intro he
      exact hbb (idx_inj hc' hcw he).1
  · intro i hi
    have := idx_lt hb hcw
    rw [if_neg (by omega), h.off i hi]
  · split
    · rename_i h0
      rw [List.nodup_append]
      refine ⟨h.nod, by simp, fun x hx y hy => ?_⟩
      simp at hy; subst hy; intro e; subst e
      exact h.pos _ hx h0
    · exact h.nod
  · intro i hi
    split at hi
    · rcases List.mem_append.1 hi with g | g
      · exact h.lt i g
      · simp at g; rw [g]; exact idx_lt hb hcw
    · exact h.lt i hi
  · intro i hi
    by_cases he : i = b * width + c
    · subst he
      split
      · simp
      · rename_i h0; exact h.mem _ h0
    · rw [if_neg he] at hi
      have := h.mem i hi
      split
      · exact List.mem_append_left _ this
      · exact this
  · intro i hi
    by_cases he : i = b * width + c
    · rw [if_pos he]; omega
    · rw [if_neg he]
      split at hi
      · rcases List.mem_append.1 hi with g | g
        · exact h.pos i g
        · simp at g; exact absurd g he
      · exact h.pos i hi
theorem Counted.congr {m width first : Nat} {pre pre' : Nat → List (List Nat)} {C : Nat → Nat} {T : List Nat} (h : Counted m width first pre C T) (he : ∀ b, b < m → pre' b = pre b) : Counted m width first pre' C T :=
  ⟨fun b c hb hc => by rw [he b hb]; exact h.at_ b c hb hc, h.off, h.nod, h.lt, h.mem, h.pos⟩
theorem Counted.start (m width first : Nat) : Counted m width first (fun _ => []) (fun _ => 0) [] :=
  ⟨fun _ _ _ _ => rfl, fun _ _ => rfl, List.nodup_nil, fun _ h => by simp at h, fun _ h => absurd rfl h, fun _ h => by simp at h⟩

/-- The mosts behind k of the touched indexes. -/
def mosts (width : Nat) (C : Nat → Nat) (T : List Nat) (b : Nat) : Nat × Nat := T.foldl (fun m i => if i / width = b then upd m (i % width) (C i) else m) (0, 0)
theorem mosts_step (width : Nat) (C : Nat → Nat) {T : List Nat} {k : Nat} (h : k < T.length) (b : Nat) : mosts width C (T.take (k + 1)) b = if T[k] / width = b then upd (mosts width C (T.take k) b) (T[k] % width) (C T[k]) else mosts width C (T.take k) b := by
  unfold mosts
  rw [take_snoc _ _ h, List.foldl_append]; rfl
theorem Counted.most {m width first : Nat} {bs : List (List Nat)} {C : Nat → Nat} {T : List Nat} (hw : 0 < width) (h : Counted m width first (fun _ => bs) C T) {b : Nat} (hb : b < m) : mosts width C T b = mostOf width (first + b) bs := by
  have gen : ∀ k, k ≤ T.length → IsMost (fun c => c < width ∧ b * width + c ∈ T.take k) (fun c => C (b * width + c)) (mosts width C (T.take k) b) := by
    intro k
    induction k with
    | zero => intro _; exact .inl ⟨rfl, fun c hc _ => by simp at hc⟩
    | succ k ih =>
      intro hk
      have ihk := ih (by omega)
      rw [mosts_step width C (show k < T.length by omega)]
      have hTk := List.getElem_mem (show k < T.length by omega)
      have hpos := h.pos _ hTk
      by_cases hbk : T[k] / width = b
      · rw [if_pos hbk]
        have hdm : b * width + T[k] % width = T[k] := by
          have := Nat.div_add_mod T[k] width
          rw [hbk, Nat.mul_comm] at this; exact this
        have := ihk.updS (code := T[k] % width) (by simp only [hdm]; omega)
        simp only [hdm] at this
        refine this.congr ?_ ?_
        · intro c hc
          rcases hc with ⟨h1, h2⟩ | rfl
          · exact ⟨h1, by rw [take_snoc _ _ (by omega)]; exact List.mem_append_left _ h2⟩
          · refine ⟨Nat.mod_lt _ hw, ?_⟩
            rw [hdm, take_snoc _ _ (by omega)]; exact List.mem_append_right _ (by simp)
        · intro c hc _
          obtain ⟨h1, h2⟩ := hc
          rw [take_snoc _ _ (by omega)] at h2
          rcases List.mem_append.1 h2 with g | g
          · exact .inl (.inl ⟨h1, g⟩)
          · simp at g
            refine .inl (.inr ?_)
            have := idx_inj h1 (Nat.mod_lt T[k] hw) (g.trans hdm.symm)
            exact this.2
      · rw [if_neg hbk]
        refine ihk.congr ?_ ?_
        · intro c hc
          exact ⟨hc.1, by rw [take_snoc _ _ (by omega)]; exact List.mem_append_left _ hc.2⟩
        · intro c hc _
          obtain ⟨h1, h2⟩ := hc
          rw [take_snoc _ _ (by omega)] at h2
          rcases List.mem_append.1 h2 with g | g
          · exact .inl ⟨h1, g⟩
          · simp at g
            exfalso
            apply hbk
            rw [← g, Nat.mul_comm, Nat.mul_add_div hw, Nat.div_eq_of_lt h1, Nat.add_zero]
  have hfin := gen T.length (Nat.le_refl _)
  rw [List.take_of_length_le (Nat.le_refl _)] at hfin
  have h2 := mostOf_is width (first + b) bs
  have h3 : IsMost (fun c => c < width) (fun c => num (first + b) c bs) (mosts width C T b) := by
    have h4 : IsMost (fun c => c < width) (fun c => C (b * width + c)) (mosts width C T b) := hfin.congr (fun c hc => hc.1) (fun c hc _ => by
      by_cases h0 : C (b * width + c) = 0
      · exact .inr h0
      · exact .inl ⟨hc, h.mem _ h0⟩)
    rcases h4 with ⟨h5, h6⟩ | ⟨g1, g2, g3, g4, g5⟩
    · exact .inl ⟨h5, fun c hc h1 => by show num _ _ _ = 0; rw [← h.at_ b c hb hc]; exact h6 c hc h1⟩
    · refine .inr ⟨g1, g2, by show num _ _ _ = _; rw [← h.at_ b _ hb g1]; exact g3, g4, fun c hc h1 => ?_⟩
      have := g5 c hc h1
      simp only [h.at_ b c hb hc] at this
      exact this
  exact h3.unique h2
end Go.Proofs.Qxb6619498a
