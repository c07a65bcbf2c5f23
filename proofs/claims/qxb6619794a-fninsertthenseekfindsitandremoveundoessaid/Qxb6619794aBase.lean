import Derived.Lib.Strings
import Derived.WalkKit
import Derived.Deep.QuietTactic
namespace Go.Proofs.Qxb6619794a

/-- The bytes of a string. -/
def bs (s : ByteArray) : List UInt8 := s.data.toList

/-- Byte order. -/
def ltB (a b : ByteArray) : Bool := decide (bs a < bs b)

theorem bytesLess_dec : ∀ (x y : List UInt8), Op.bytesLess x y = decide (x < y)
  | [], [] => by simp [Op.bytesLess]
  | _ :: _, [] => by simp [Op.bytesLess]
  | [], _ :: _ => by simp [Op.bytesLess]
  | a :: x, b :: y => by
    rw [Op.bytesLess, bytesLess_dec x y]
    simp only [List.cons_lt_cons_iff]
    by_cases h1 : a < b <;> by_cases h2 : a = b <;> by_cases h3 : x < y <;> simp [h1, h2, h3]

/-- Where the first k bytes agree, the order is that of the rest. -/
theorem lt_drop_of_take : ∀ (k : Nat) (x y : List UInt8), k ≤ x.length → k ≤ y.length → x.take k = y.take k → (x < y ↔ x.drop k < y.drop k)
  | 0, _, _, _, _, _ => by simp
  | k + 1, [], _, h, _, _ => by simp at h
  | k + 1, _ :: _, [], _, h, _ => by simp at h
  | k + 1, a :: x, b :: y, hx, hy, he => by
    simp only [List.take_succ_cons, List.cons.injEq] at he
    obtain ⟨rfl, he⟩ := he
    simp only [List.drop_succ_cons, List.cons_lt_cons_iff]
    rw [← lt_drop_of_take k x y (by simpa using hx) (by simpa using hy) he]
    constructor
    · rintro (h | ⟨_, h⟩)
      · exact absurd h (UInt8.lt_irrefl _)
      · exact h
    · intro h; exact .inr ⟨trivial, h⟩

theorem bs_length (a : ByteArray) : (bs a).length = a.size := by simp [bs]
theorem bs_get (a : ByteArray) (k : Nat) (h : k < a.size) : (bs a)[k]'(by rw [bs_length]; exact h) = a[k] := rfl

theorem take_step {a b : ByteArray} {k : Nat} (ha : k < a.size) (hb : k < b.size) (ht : (bs a).take k = (bs b).take k) (he : a[k] = b[k]) : (bs a).take (k + 1) = (bs b).take (k + 1) := by
  rw [List.take_succ_eq_append_getElem (by rw [bs_length]; exact ha), List.take_succ_eq_append_getElem (by rw [bs_length]; exact hb), ht, bs_get a k ha, bs_get b k hb, he]

theorem drop_cons (a : ByteArray) (k : Nat) (ha : k < a.size) : (bs a).drop k = a[k] :: (bs a).drop (k + 1) := by
  rw [List.drop_eq_getElem_cons (by rw [bs_length]; exact ha), bs_get a k ha]

theorem lt_at {a b : ByteArray} {k : Nat} (ha : k < a.size) (hb : k < b.size) (ht : (bs a).take k = (bs b).take k) (hne : a[k] ≠ b[k]) : ltB a b = decide (a[k].toNat < b[k].toNat) := by
  unfold ltB
  rw [Bool.eq_iff_iff]
  simp only [decide_eq_true_eq]
  rw [lt_drop_of_take k _ _ (by rw [bs_length]; omega) (by rw [bs_length]; omega) ht, drop_cons a k ha, drop_cons b k hb, List.cons_lt_cons_iff]
  constructor
  · rintro (h | ⟨h, _⟩)
    · rw [UInt8.lt_iff_toNat_lt] at h; exact h
    · exact absurd h hne
  · intro h; left; rw [UInt8.lt_iff_toNat_lt]; exact h

theorem lt_end {a b : ByteArray} {k : Nat} (ha : k ≤ a.size) (hb : k ≤ b.size) (hk : k = a.size ∨ k = b.size) (ht : (bs a).take k = (bs b).take k) : ltB a b = decide (a.size < b.size) := by
  unfold ltB
  rw [Bool.eq_iff_iff]
  simp only [decide_eq_true_eq]
  rw [lt_drop_of_take k _ _ (by rw [bs_length]; omega) (by rw [bs_length]; omega) ht]
  by_cases h1 : k = a.size
  · have : (bs a).drop k = [] := List.drop_of_length_le (by rw [bs_length]; omega)
    rw [this]
    by_cases h2 : k = b.size
    · have : (bs b).drop k = [] := List.drop_of_length_le (by rw [bs_length]; omega)
      rw [this]; simp; omega
    · rw [drop_cons b k (by omega)]; simp; omega
  · have h2 : k = b.size := by omega
    have : (bs b).drop k = [] := List.drop_of_length_le (by rw [bs_length]; omega)
    rw [this]; simp; omega

theorem drewN_drewN (w : World) (a b : Nat) : (w.drewN a).drewN b = w.drewN (a + b) := by
  simp [World.drewN, Nat.add_assoc]
theorem still2 (w : World) (a b : Nat) : ∃ n, (w.drewN a).drewN b = w.drewN n := ⟨_, drewN_drewN _ _ _⟩
theorem still3 (w : World) (a b c : Nat) : ∃ n, ((w.drewN a).drewN b).drewN c = w.drewN n := ⟨_, by rw [drewN_drewN, drewN_drewN]⟩

/-- Nothing but draws. -/
def Still (w w' : World) : Prop := ∃ n, w' = w.drewN n
theorem Still.refl (w : World) : Still w w := ⟨0, rfl⟩
theorem Still.drewN {w w' : World} (h : Still w w') (n : Nat) : Still w (w'.drewN n) := by
  obtain ⟨m, rfl⟩ := h; exact ⟨_, drewN_drewN _ _ _⟩
theorem Still.drew {w w' : World} (h : Still w w') : Still w w'.drew := by
  obtain ⟨m, rfl⟩ := h; exact ⟨m + 1, rfl⟩
theorem Still.trans {a b c : World} (h : Still a b) (k : Still b c) : Still a c := by
  obtain ⟨m, rfl⟩ := k; exact h.drewN m
theorem Still.below {w w' : World} (h : Still w w') (B : Nat) : RowKit.Below B w w' := by
  obtain ⟨n, rfl⟩ := h; exact ⟨rfl, rfl, rfl, Nat.le_refl _, fun _ _ => rfl⟩
theorem Still.heap {w w' : World} (h : Still w w') : w'.heap = w.heap := by
  obtain ⟨n, rfl⟩ := h; rfl

theorem Still.cell {w w' : World} (h : Still w w') {a : Addr} {v : Value} (hc : w.cell? a = some v) : w'.cell? a = some v := by
  obtain ⟨n, rfl⟩ := h; exact hc

/-- The slice value v shows the strings ss in the world w. -/
def StrsAt (w : World) (ao : Option Addr) (ss : List ByteArray) : Prop :=
  ∀ j (h : j < ss.length), ∃ b off, ao = some ⟨b, off, none⟩ ∧ w.cell? ⟨b, off + j, none⟩ = some (.string ss[j])

/-- The slice value shows rows of strings. -/
def RowsAt (w : World) (ao : Option Addr) (sss : List (List ByteArray)) : Prop :=
  ∀ j (h : j < sss.length), ∃ b off c cap, ao = some ⟨b, off, none⟩ ∧ w.cell? ⟨b, off + j, none⟩ = some (.slice c sss[j].length cap) ∧ StrsAt w c sss[j]

/-- The slice value shows numbers. -/
def NumsAt (w : World) (ao : Option Addr) (es : List Int) : Prop :=
  ∀ j (h : j < es.length), ∃ b off, ao = some ⟨b, off, none⟩ ∧ w.cell? ⟨b, off + j, none⟩ = some (.int .u64 es[j])

theorem cell_lt {w : World} {a : Addr} {v : Value} (h : w.cell? a = some v) : a.block < w.heap.size := by
  unfold World.cell? at h
  rcases Nat.lt_or_ge a.block w.heap.size with g | g
  · exact g
  · simp [Array.getElem?_eq_none g] at h

theorem cell_below {w w' : World} {a : Addr} {v : Value} (h : w.cell? a = some v) (hb : RowKit.Below w.heap.size w w') : w'.cell? a = some v := by
  rw [hb.cell (cell_lt h)]; exact h

theorem StrsAt.below {w w' : World} {ao : Option Addr} {ss : List ByteArray} (h : StrsAt w ao ss) (hb : RowKit.Below w.heap.size w w') : StrsAt w' ao ss := by
  intro j hj
  obtain ⟨b, off, h1, h2⟩ := h j hj
  exact ⟨b, off, h1, cell_below h2 hb⟩

theorem RowsAt.below {w w' : World} {ao : Option Addr} {sss : List (List ByteArray)} (h : RowsAt w ao sss) (hb : RowKit.Below w.heap.size w w') : RowsAt w' ao sss := by
  intro j hj
  obtain ⟨b, off, c, cap, h1, h2, h3⟩ := h j hj
  exact ⟨b, off, c, cap, h1, cell_below h2 hb, h3.below hb⟩

theorem NumsAt.below {w w' : World} {ao : Option Addr} {es : List Int} (h : NumsAt w ao es) (hb : RowKit.Below w.heap.size w w') : NumsAt w' ao es := by
  intro j hj
  obtain ⟨b, off, h1, h2⟩ := h j hj
  exact ⟨b, off, h1, cell_below h2 hb⟩

theorem StrsAt.still {w w' : World} {ao : Option Addr} {ss : List ByteArray} (h : StrsAt w ao ss) (hs : Still w w') : StrsAt w' ao ss := h.below (hs.below _)
theorem RowsAt.still {w w' : World} {ao : Option Addr} {sss : List (List ByteArray)} (h : RowsAt w ao sss) (hs : Still w w') : RowsAt w' ao sss := h.below (hs.below _)
theorem NumsAt.still {w w' : World} {ao : Option Addr} {es : List Int} (h : NumsAt w ao es) (hs : Still w w') : NumsAt w' ao es := h.below (hs.below _)
theorem StrsAt.drewN {w : World} {ao : Option Addr} {ss : List ByteArray} (h : StrsAt w ao ss) (n : Nat) : StrsAt (w.drewN n) ao ss := h
theorem RowsAt.drewN {w : World} {ao : Option Addr} {sss : List (List ByteArray)} (h : RowsAt w ao sss) (n : Nat) : RowsAt (w.drewN n) ao sss := h
theorem NumsAt.drewN {w : World} {ao : Option Addr} {es : List Int} (h : NumsAt w ao es) (n : Nat) : NumsAt (w.drewN n) ao es := h

theorem take_snoc {α : Type} (l : List α) (k : Nat) (h : k < l.length) : l.take (k + 1) = l.take k ++ [l[k]] := List.take_succ_eq_append_getElem h

def hasB (ss : List ByteArray) (key : ByteArray) : Bool := ss.any fun s => bs s == bs key

theorem toList_bs (s : ByteArray) : s.toList = bs s := Lib.toList_data s

theorem hasB_yes {ss : List ByteArray} {key : ByteArray} {k : Nat} (h : k < ss.length) (he : (ss[k].toList == key.toList) = true) : hasB ss key = true := by
  unfold hasB
  rw [List.any_eq_true]
  exact ⟨ss[k], List.getElem_mem h, by rw [← toList_bs, ← toList_bs]; exact he⟩

theorem hasB_step {ss : List ByteArray} {key : ByteArray} {k : Nat} (h : k < ss.length) (h0 : hasB (ss.take k) key = false) (he : (ss[k].toList == key.toList) = false) : hasB (ss.take (k + 1)) key = false := by
  unfold hasB at *
  rw [take_snoc _ _ h, List.any_append, h0]
  simp only [List.any_cons, List.any_nil, Bool.or_false, Bool.false_or]
  rw [← toList_bs, ← toList_bs]; exact he

def below (ss : List ByteArray) (from_ : ByteArray) : Nat := (ss.filter fun s => ltB s from_).length

theorem below_step {ss : List ByteArray} {f : ByteArray} {k : Nat} (h : k < ss.length) : below (ss.take (k + 1)) f = below (ss.take k) f + (if ltB ss[k] f = true then 1 else 0) := by
  unfold below
  rw [take_snoc _ _ h, List.filter_append, List.length_append]
  by_cases hh : ltB ss[k] f = true <;> simp [hh]

theorem below_le (ss : List ByteArray) (f : ByteArray) : below ss f ≤ ss.length := List.length_filter_le _ _

/-- How many keys lie in the first k chunks. -/
def pre (sss : List (List ByteArray)) (k : Nat) : Nat := (sss.take k).flatten.length

theorem pre_step {sss : List (List ByteArray)} {k : Nat} (h : k < sss.length) : pre sss (k + 1) = pre sss k + sss[k].length := by
  unfold pre
  rw [take_snoc _ _ h, List.flatten_append, List.length_append]; simp

theorem pre_le (sss : List (List ByteArray)) (k : Nat) : pre sss k ≤ sss.flatten.length := by
  unfold pre
  conv => rhs; rw [← List.take_append_drop k sss]
  rw [List.flatten_append, List.length_append]; omega

/-- Strictly ascending. -/
def Asc (ss : List ByteArray) : Prop := ∀ j (h : j + 1 < ss.length), ltB ss[j] ss[j + 1] = true

/-- What zzWellFormed asks of chunk ci. -/
def OkChunk (sss : List (List ByteArray)) (ci : Nat) (h : ci < sss.length) : Prop :=
  0 < sss[ci].length ∧ sss[ci].length ≤ 512 ∧ Asc sss[ci] ∧
    ∀ p (hp : p + 1 = ci) (h1 : sss[p].length - 1 < sss[p].length) (h2 : 0 < sss[ci].length), ltB sss[p][sss[p].length - 1] sss[ci][0] = true

def WF (sss : List (List ByteArray)) : Prop := ∀ ci (h : ci < sss.length), OkChunk sss ci h

theorem wrap_nat (n : Nat) (h : n ≤ 9223372036854775807) : IntKind.i64.wrap (n : Int) = (n : Int) := by
  simp [IntKind.wrap, IntKind.bits, IntKind.signed]; omega

theorem wrap_pred {m n : Nat} (hm : m = n + 1) (h : m ≤ 9223372036854775807) : IntKind.i64.wrap ((m : Int) - 1) = (n : Int) := by
  subst hm
  rw [← wrap_nat n (by omega)]; congr 1; omega

/-- The bytes that zzSizeOK counts for a chunk's strings. -/
def wt (ss : List ByteArray) : Nat := (ss.map fun s => s.size).sum
def wtt (sss : List (List ByteArray)) : Nat := (sss.map fun ss => 16 * ss.length + wt ss).sum

theorem wt_step {ss : List ByteArray} {k : Nat} (h : k < ss.length) : wt (ss.take (k + 1)) = wt (ss.take k) + ss[k].size := by
  unfold wt; rw [take_snoc _ _ h, List.map_append, List.sum_append]; simp
theorem wtt_step {sss : List (List ByteArray)} {k : Nat} (h : k < sss.length) : wtt (sss.take (k + 1)) = wtt (sss.take k) + (16 * sss[k].length + wt sss[k]) := by
  unfold wtt; rw [take_snoc _ _ h, List.map_append, List.sum_append]; simp

theorem wt_mem {ss : List ByteArray} {s : ByteArray} (h : s ∈ ss) : s.size ≤ wt ss := by
  induction ss with
  | nil => simp at h
  | cons a l ih =>
    simp only [wt, List.map_cons, List.sum_cons] at *
    rcases List.mem_cons.1 h with rfl | h
    · omega
    · have := ih h; omega
theorem wtt_mem {sss : List (List ByteArray)} {ss : List ByteArray} (h : ss ∈ sss) : 16 * ss.length + wt ss ≤ wtt sss := by
  induction sss with
  | nil => simp at h
  | cons a l ih =>
    simp only [wtt, List.map_cons, List.sum_cons] at *
    rcases List.mem_cons.1 h with rfl | h
    · omega
    · have := ih h; omega
theorem wtt_flat (sss : List (List ByteArray)) : 16 * sss.flatten.length ≤ wtt sss := by
  induction sss with
  | nil => simp
  | cons a l ih =>
    simp only [wtt, List.map_cons, List.sum_cons, List.flatten_cons, List.length_append] at *
    omega

/-- The call returns a bool of which Q holds. -/
def RetB (Q : Bool → Prop) (e : Ending) : Prop := ∃ b, e = .returned (.bool b) ∧ Q b
theorem RetB.no {Q : Bool → Prop} {v : Value} (hv : v = .bool false) (h : Q false) : RetB Q (.returned v) := ⟨false, by rw [hv], h⟩
theorem RetB.yes {Q : Bool → Prop} {v : Value} (hv : v = .bool true) (h : Q true) : RetB Q (.returned v) := ⟨true, by rw [hv], h⟩

/-! ### The order of strings -/
theorem ltB_trans {a b c : ByteArray} (h : ltB a b = true) (k : ltB b c = true) : ltB a c = true := by
  simp only [ltB, decide_eq_true_eq] at *; exact List.lt_trans h k
theorem ltB_irrefl (a : ByteArray) : ltB a a = false := by
  simp only [ltB, decide_eq_false_iff_not]; exact List.lt_irrefl _
theorem bs_inj {a b : ByteArray} (h : bs a = bs b) : a = b := by
  obtain ⟨⟨a⟩⟩ := a; obtain ⟨⟨b⟩⟩ := b; simp only [bs] at h; simp [h]
theorem ltB_total {a b : ByteArray} (h : ltB a b = false) (k : ltB b a = false) : a = b := by
  simp only [ltB, decide_eq_false_iff_not] at *
  exact bs_inj (List.le_antisymm k h)
theorem ltB_asymm {a b : ByteArray} (h : ltB a b = true) : ltB b a = false := by
  cases k : ltB b a
  · rfl
  · have := ltB_trans h k; rw [ltB_irrefl] at this; cases this

theorem Asc.lt {ss : List ByteArray} (h : Asc ss) : ∀ (i j : Nat) (hij : i < j) (hj : j < ss.length), ltB ss[i] ss[j] = true := by
  intro i j hij
  induction j with
  | zero => omega
  | succ j ih =>
    intro hj
    rcases Nat.lt_or_ge i j with g | g
    · exact ltB_trans (ih g (by omega)) (h j hj)
    · have : i = j := by omega
      subst this; exact h i hj

/-- A list of which the first p are below the key and the rest is not. -/
theorem below_of {ss : List ByteArray} {key : ByteArray} {p : Nat} (hp : p ≤ ss.length) (h1 : ∀ t (h : t < ss.length), t < p → ltB ss[t] key = true) (h2 : ∀ t (h : t < ss.length), p ≤ t → ltB ss[t] key = false) : below ss key = p := by
  unfold below
  conv => lhs; rw [← List.take_append_drop p ss]
  rw [List.filter_append, List.length_append, List.filter_eq_self.2, List.filter_eq_nil_iff.2]
  · simp; omega
  · intro a ha
    obtain ⟨q, hq, rfl⟩ := List.mem_iff_getElem.1 ha
    simp at hq ⊢
    rw [h2 _ (by omega) (by omega)]
  · intro a ha
    obtain ⟨q, hq, rfl⟩ := List.mem_iff_getElem.1 ha
    simp at hq ⊢
    exact h1 _ (by omega) (by omega)

theorem hasB_iff {ss : List ByteArray} {key : ByteArray} : hasB ss key = true ↔ key ∈ ss := by
  unfold hasB
  rw [List.any_eq_true]
  constructor
  · rintro ⟨x, hx, he⟩
    have : x = key := bs_inj (by simpa using he)
    exact this ▸ hx
  · intro h; exact ⟨key, h, by simp⟩

/-- Where the search has come to place p: the key is held iff it stands there. -/
theorem hasB_at {ss : List ByteArray} {key : ByteArray} {p : Nat} (h1 : ∀ t (h : t < ss.length), t < p → ltB ss[t] key = true) (hA : Asc ss) (hp : p < ss.length) (h2 : ltB ss[p] key = false) : hasB ss key = (ss[p].toList == key.toList) := by
  rw [toList_bs, toList_bs, Bool.eq_iff_iff, hasB_iff]
  constructor
  · intro h
    obtain ⟨q, hq, he⟩ := List.mem_iff_getElem.1 h
    have hqp : q = p := by
      rcases Nat.lt_trichotomy q p with g | g | g
      · have := h1 q hq g; rw [he, ltB_irrefl] at this; cases this
      · exact g
      · have := hA.lt p q g hq; rw [he, h2] at this; cases this
    subst hqp; rw [he]; simp
  · intro h
    have : ss[p] = key := bs_inj (by simpa using h)
    exact this ▸ List.getElem_mem hp

theorem hasB_none {ss : List ByteArray} {key : ByteArray} (h1 : ∀ t (h : t < ss.length), ltB ss[t] key = true) : hasB ss key = false := by
  cases h : hasB ss key
  · rfl
  · rw [hasB_iff] at h
    obtain ⟨q, hq, he⟩ := List.mem_iff_getElem.1 h
    have := h1 q hq; rw [he, ltB_irrefl] at this; cases this

theorem mid_nat (l r : Nat) (h : l < r) : ∃ m : Nat, ((l : Int) + (r : Int)) / 2 = (m : Int) ∧ l ≤ m ∧ m < r := ⟨(l + r) / 2, by omega, by omega, by omega⟩

theorem ret_bool {a b : Bool} (h : b = a) : Ending.returned (.bool a) = .returned (.bool b) := by rw [h]
theorem ret_int {k : IntKind} {a b : Int} (h : b = a) : Ending.returned (.int k a) = .returned (.int k b) := by rw [h]

end Go.Proofs.Qxb6619794a
