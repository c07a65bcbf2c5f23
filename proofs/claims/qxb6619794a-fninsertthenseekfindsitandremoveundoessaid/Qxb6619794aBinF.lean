import Derived.Test.Qxb6619794aBin
namespace Go.Proofs.Qxb6619794a
open Go.RowKit

def cmpI (x key : ByteArray) : Int := Lib.compareBytes (bs x) (bs key)
theorem cmpI_lt (x key : ByteArray) : (cmpI x key < 0) ↔ ltB x key = true := by
  unfold cmpI ltB; rw [compare_lt]; simp
theorem cmpI_eq (x key : ByteArray) : (cmpI x key == 0) = (x.toList == key.toList) := by
  rw [toList_bs, toList_bs, Bool.eq_iff_iff]
  simp only [beq_iff_eq, cmpI, compare_eq]

/-- The slice of chunk pointers at co: the first keys of the chunks are fs. -/
def FirstsAt (w : World) (co : Option Addr) (fs : List ByteArray) : Prop :=
  ∀ j (h : j < fs.length), ∃ b off pb cb coff n cap, co = some ⟨b, off, none⟩ ∧ w.cell? ⟨b, off + j, none⟩ = some (.pointer (some ⟨pb, 0, none⟩)) ∧ 0 < n ∧
    w.cell? ⟨pb, 0, none⟩ = some (.slice (some ⟨cb, coff, none⟩) n cap) ∧ w.cell? ⟨cb, coff, none⟩ = some (.string fs[j])

theorem cmp51i (pb : Nat) (n ccap : Nat) (b off : Nat) (x key : ByteArray) (w : World) (hn : 0 < n) (hp : w.cell? ⟨pb, 0, none⟩ = some (.slice (some ⟨b, off, none⟩) n ccap)) (hx : w.cell? ⟨b, off, none⟩ = some (.string x)) :
    Calls Try.prog 51 #[.pointer (some ⟨pb, 0, none⟩), .string key] w fun e w' => e = .returned (.int .i64 (cmpI x key)) ∧ w' = w := cmp51 pb n ccap b off x key w hn hp hx

set_option maxHeartbeats 1000000 in
theorem bin50 (co : Option Addr) (cap : Nat) (fs : List ByteArray) (key : ByteArray) (hl : fs.length ≤ 2000000) (hA : Asc fs) (w : World) (hs : FirstsAt w co fs) :
    Calls Try.prog 50 #[.slice co fs.length cap, .string key, .func (.func 51) #[] #[]] w fun e w' => e = .returned (.tuple #[.int .i64 (below fs key), .bool (hasB fs key)]) ∧ w' = w := by
  have HS : Hid (FirstsAt w co fs) := hs
  have HA : Hid (Asc fs) := hA
  clear hs hA
  go_enter Try.func50, Try.ntmps50
  go_wp2
  go_loop [9, 10] (fun i j => ∃ l r : Nat, l ≤ r ∧ r ≤ fs.length ∧ i = .int .i64 l ∧ j = .int .i64 r ∧ (∀ t (h : t < fs.length), t < l → ltB fs[t] key = true) ∧ (∀ t (h : t < fs.length), r ≤ t → ltB fs[t] key = false)) (fun i j => (intOf j).toNat - (intOf i).toNat)
  case atStart => exact ⟨0, fs.length, Nat.zero_le _, Nat.le_refl _, rfl, rfl, fun t h h0 => by omega, fun t h h0 => by omega⟩
  case round =>
    obtain ⟨l, r, hlr, hr, rfl, rfl, h1, h2⟩ := hrel
    have H1 : Hid (∀ t (h : t < fs.length), t < l → ltB fs[t] key = true) := h1
    have H2 : Hid (∀ t (h : t < fs.length), r ≤ t → ltB fs[t] key = false) := h2
    clear h1 h2
    by_cases hlt : l < r
    · obtain ⟨m, hm, hlm, hmr⟩ := mid_nat l r hlt
      have hml : m < fs.length := by omega
      obtain ⟨b, off, pb, cb, coff, n, ccap, hao, hc, hn, hc2, hc3⟩ := HS.out m hml
      subst hao
      have hx1 : (m : Int) < (fs.length : Int) := by omega
      have hx0 : (0 : Int) ≤ (m : Int) := by omega
      cases hq : ltB fs[m] key
      · have hd : decide (cmpI fs[m] key < 0) = false := by rw [decide_eq_false_iff_not, cmpI_lt, hq]; simp
        go_wp2_with (go_at_call 51; refine (cmp51i _ _ _ _ _ _ _ _ hn hc2 hc3).mono ?_; rintro e w' ⟨rfl, rfl⟩)
        go_round
        case rel =>
          refine ⟨l, m, hlm, by omega, rfl, rfl, H1.out, fun t h ht => ?_⟩
          rcases Nat.lt_or_ge m t with g | g
          · cases hk : ltB fs[t] key
            · rfl
            · have := ltB_trans (HA.out.lt m t g h) hk; rw [hq] at this; cases this
          · have : t = m := by omega
            subst this; exact hq
        case measure => simp [intOf]; omega
      · have hd : cmpI fs[m] key < 0 := by rw [cmpI_lt, hq]
        go_wp2_with (go_at_call 51; refine (cmp51i _ _ _ _ _ _ _ _ hn hc2 hc3).mono ?_; rintro e w' ⟨rfl, rfl⟩)
        go_round
        case rel =>
          refine ⟨m + 1, r, by omega, hr, by go_num, rfl, fun t h ht => ?_, H2.out⟩
          rcases Nat.lt_or_ge t m with g | g
          · exact ltB_trans (HA.out.lt t m g hml) hq
          · have : t = m := by omega
            subst this; exact hq
        case measure => simp [intOf]; omega
    · have hle : l = r := by omega
      subst hle
      have HBE := below_of hr H1.out H2.out
      have HB : Hid (below fs key = l) := HBE
      clear HBE
      by_cases hln : l < fs.length
      · obtain ⟨b, off, pb, cb, coff, n, ccap, hao, hc, hn, hc2, hc3⟩ := HS.out l hln
        subst hao
        have hx1 : (l : Int) < (fs.length : Int) := by omega
        have HE : Hid (hasB fs key = (fs[l].toList == key.toList)) := hasB_at H1.out HA.out hln (H2.out l hln (Nat.le_refl _))
        go_wp2_with (go_at_call 51; refine (cmp51i _ _ _ _ _ _ _ _ hn hc2 hc3).mono ?_; rintro e w' ⟨rfl, rfl⟩)
        go_ret2
        exact ⟨by rw [HB.out, HE.out, ← cmpI_eq]; rfl, rfl⟩
      · have hx1 : decide ((l : Int) < (fs.length : Int)) = false := by rw [decide_eq_false_iff_not]; omega
        have HE : Hid (hasB fs key = false) := hasB_none (fun t h => H1.out t h (by omega))
        go_wp2
        go_ret2
        exact ⟨by rw [HB.out, HE.out]; rfl, rfl⟩

/-- What a reader sees of the sortedKeys at block kb. -/
def KView (w : World) (kb : Nat) (sss : List (List ByteArray)) : Prop :=
  ∃ co cap, w.cell? ⟨kb, 0, none⟩ = some (.slice co sss.length cap) ∧
    ∀ j (h : j < sss.length), ∃ b off pb c ccap, co = some ⟨b, off, none⟩ ∧ w.cell? ⟨b, off + j, none⟩ = some (.pointer (some ⟨pb, 0, none⟩)) ∧
      w.cell? ⟨pb, 0, none⟩ = some (.slice c sss[j].length ccap) ∧ StrsAt w c sss[j]

def heads (sss : List (List ByteArray)) : List ByteArray := sss.map fun ss => ss.headD ByteArray.empty

theorem heads_length (sss : List (List ByteArray)) : (heads sss).length = sss.length := by simp [heads]
theorem heads_get {sss : List (List ByteArray)} {j : Nat} (h : j < sss.length) (h1 : j < (heads sss).length) (h2 : 0 < sss[j].length) : (heads sss)[j] = sss[j][0] := by
  simp only [heads, List.getElem_map]
  generalize sss[j] = l at *
  cases l with
  | nil => simp at h2
  | cons a l => rfl

theorem WF.last_lt {sss : List (List ByteArray)} (h : WF sss) {p : Nat} (hp : p + 1 < sss.length) (h1 : 0 < sss[p].length) (h2 : 0 < sss[p + 1].length) : ltB (sss[p][sss[p].length - 1]'(by omega)) sss[p + 1][0] = true :=
  (h (p + 1) hp).2.2.2 p rfl (by omega) h2

theorem WF.heads_asc {sss : List (List ByteArray)} (h : WF sss) : Asc (heads sss) := by
  intro j hj
  have hj2 : j + 1 < sss.length := by rw [heads_length] at hj; exact hj
  have h1 := (h j (by omega)).1
  have h2 := (h (j + 1) hj2).1
  rw [heads_get (by omega) _ h1, heads_get hj2 _ h2]
  have hl := h.last_lt hj2 h1 h2
  rcases Nat.lt_or_ge 0 (sss[j].length - 1) with g | g
  · exact ltB_trans ((h j (by omega)).2.2.1.lt 0 (sss[j].length - 1) g (by omega)) hl
  · have : sss[j].length - 1 = 0 := by omega
    simp only [this] at hl
    exact hl

theorem KView.firsts {w : World} {kb : Nat} {sss : List (List ByteArray)} (h : KView w kb sss) (hw : WF sss) : ∃ co cap, w.cell? ⟨kb, 0, none⟩ = some (.slice co sss.length cap) ∧ FirstsAt w co (heads sss) := by
  obtain ⟨co, cap, h1, h2⟩ := h
  refine ⟨co, cap, h1, fun j hj => ?_⟩
  have hj2 : j < sss.length := by rw [heads_length] at hj; exact hj
  obtain ⟨b, off, pb, c, ccap, e1, e2, e3, e4⟩ := h2 j hj2
  have hp := (hw j hj2).1
  obtain ⟨cb, coff, e5, e6⟩ := e4 0 hp
  subst e5
  exact ⟨b, off, pb, cb, coff, _, ccap, e1, e2, hp, e3, by rw [heads_get hj2 _ hp]; exact e6⟩

/-- The chunk that chunkOf answers. -/
def chunkIx (sss : List (List ByteArray)) (key : ByteArray) : Nat :=
  if hasB (heads sss) key = true then below (heads sss) key else below (heads sss) key - 1

set_option maxHeartbeats 1000000 in
theorem chunkOf_any (kb : Nat) (sss : List (List ByteArray)) (key : ByteArray) (hl : sss.length ≤ 2000000) (hw : WF sss) (w : World) (hk : KView w kb sss) :
    Calls Try.prog 42 #[.pointer (some ⟨kb, 0, none⟩), .string key] w fun e w' => e = .returned (.int .i64 (chunkIx sss key)) ∧ w' = w := by
  obtain ⟨co, cap, h1, h2⟩ := hk.firsts hw
  have HA : Hid (Asc (heads sss)) := hw.heads_asc
  have HF : Hid (FirstsAt w co (heads sss)) := h2
  have hbl := below_le (heads sss) key
  rw [heads_length] at hbl
  rw [← heads_length] at h1
  have HL : Hid ((heads sss).length = sss.length) := heads_length sss
  have hl2 : (heads sss).length ≤ 2000000 := by rw [heads_length]; exact hl
  clear hk hw h2
  unfold chunkIx
  generalize heads sss = fs at *
  by_cases hb0 : below fs key = 0
  · rw [hb0]
    have HB0 : Hid (below fs key = 0) := hb0
    clear hb0
    cases hq : hasB fs key
    all_goals
      go_enter Try.func42, Try.ntmps42
      go_wp2_with (go_at_call 50; refine (bin50 _ _ fs _ hl2 HA.out _ HF.out).mono ?_; rintro e w' ⟨rfl, rfl⟩; rw [HB0.out, hq])
      go_ret
      exact ⟨rfl, rfl⟩
  · obtain ⟨p, hp⟩ : ∃ p, below fs key = p + 1 := ⟨below fs key - 1, by omega⟩
    rw [hp]
    rw [hp] at hbl
    have HB0 : Hid (below fs key = p + 1) := hp
    clear hb0 hp
    cases hq : hasB fs key
    all_goals
      go_enter Try.func42, Try.ntmps42
      go_wp2_with (go_at_call 50; refine (bin50 _ _ fs _ hl2 HA.out _ HF.out).mono ?_; rintro e w' ⟨rfl, rfl⟩; rw [HB0.out, hq])
      go_ret
      exact ⟨ret_int (by simp), rfl⟩
end Go.Proofs.Qxb6619794a
