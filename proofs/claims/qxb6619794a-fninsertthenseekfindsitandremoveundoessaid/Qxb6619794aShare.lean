import Derived.Test.Qxb6619794aBack
namespace Go.Proofs.Qxb6619794a
open Go.RowKit

def idxVals (ids : List Nat) : List Value := ids.map fun i : Nat => Value.int .i64 (i : Int)
def OwnI (w : World) (B : Nat) (v : Value) (ids : List Nat) : Prop := w.ownsRow B 3 1 v ids.length (idxVals ids)
def OwnT (w : World) (B : Nat) (v : Value) (ts : List SV) : Prop := w.ownsRow B 30 1 v ts.length (ts.map sv)

theorem OwnI.alloc {w : World} {B : Nat} {v : Value} {ids : List Nat} (h : OwnI w B v ids) (o : Obj) : OwnI (w.alloc o) B v ids := World.ownsRow.alloc h o
theorem OwnT.alloc {w : World} {B : Nat} {v : Value} {ts : List SV} (h : OwnT w B v ts) (o : Obj) : OwnT (w.alloc o) B v ts := World.ownsRow.alloc h o

/-- Two own rows of unlike types lie in unlike blocks. -/
theorem own_apart {w : World} {B B' : Nat} {t t' : TypeId} {v v' : Value} {n n' : Nat} {xs xs' : List Value} (h : w.ownsRow B t 1 v n xs) (h' : w.ownsRow B' t' 1 v' n' xs') (hne : t ≠ t') : v.ownBlock = none ∨ v.ownBlock ≠ v'.ownBlock := by
  rcases h.2 with ⟨rfl, _⟩ | ⟨g, cap, cur, rfl, _, hg, _⟩
  · exact .inl rfl
  · rcases h'.2 with ⟨rfl, _⟩ | ⟨g', cap', cur', rfl, _, hg', _⟩
    · right; simp [Value.ownBlock]
    · right
      intro e
      simp [Value.ownBlock] at e
      subst e
      rw [hg] at hg'; simp at hg'; exact hne hg'.2

theorem own_imp {w w' : World} {B : Nat} {t : TypeId} {v : Value} {n : Nat} {xs : List Value} (h : w.ownsRow B t 1 v n xs) (hi : ∀ b C, Blk w b C t → Blk w' b C t) : w'.ownsRow B t 1 v n xs := by
  refine ⟨h.1, ?_⟩
  rcases h.2 with ⟨rfl, h0⟩ | ⟨g, cap, cur, rfl, hB, hg, hr⟩
  · exact .inl ⟨rfl, h0⟩
  · exact .inr ⟨g, cap, cur, rfl, hB, hi _ _ hg, hr⟩

theorem wpList_append_int {w : World} {ops : Array Oper} {rest : List Oper} {o : Oper} {a : Act} {Q : Exit → Act → World → Prop} (hgd : o.guard = none) (s x : Operand)
    (ho : o.op = .call { callee := .builtin .append, args := #[s, x], argTypes := #[35, 35] })
    (B : Nat) (v : Value) (ids : List Nat) (hs : a.eval s = v) (hown : OwnI w B v ids) (g : Nat) (i : Nat) (hx : a.eval x = .slice (some ⟨g, 0, none⟩) 1 1) (hc : w.cell? ⟨g, 0, none⟩ = some (.int .i64 (i : Int)))
    (hlen : ids.length ≤ 4000000) (hB : B ≤ w.heap.size)
    (h : ∀ v' w', OwnI w' B v' (ids ++ [i]) → w.grownBy w' v.ownBlock → wpList Try.prog ops Q rest (a.put o.dst v') w') : wpList Try.prog ops Q (o :: rest) a w := by
  obtain ⟨i0, hi, hz0, hz1, hz2⟩ := info_parts (P := Try.prog) (e := 3) (z := .int .i64 0) (size := 1) (bytes := 8) (by kernel_rfl)
  refine wpList_append_own _ hgd s x 35 ho B 3 i0 (.int .i64 0) 1 8 Try.underlying35 hi hz0 hz1 hz2 rfl (by decide) v ids.length (idxVals ids) hs hown ⟨g, 0, none⟩ 1 1 [.int .i64 (i : Int)] hx rfl ?_ ?_ ?_ ?_ hB ?_
  · intro j u hj
    match j, hj with
    | 0, hj => simp at hj; subst hj; simpa [Addr.add] using hc
  · intro u hu; simp at hu; subst hu; rfl
  · unfold maxLen; omega
  · omega
  · intro v' w' h1 h2 _
    refine h v' w' ?_ h2
    unfold OwnI idxVals
    unfold idxVals at h1
    simpa using h1

theorem wpList_append_slc {w : World} {ops : Array Oper} {rest : List Oper} {o : Oper} {a : Act} {Q : Exit → Act → World → Prop} (hgd : o.guard = none) (s x : Operand)
    (ho : o.op = .call { callee := .builtin .append, args := #[s, x], argTypes := #[22, 22] })
    (B : Nat) (v : Value) (ts : List SV) (hs : a.eval s = v) (hown : OwnT w B v ts) (g : Nat) (t : SV) (hx : a.eval x = .slice (some ⟨g, 0, none⟩) 1 1) (hc : w.cell? ⟨g, 0, none⟩ = some (sv t))
    (hlen : ts.length ≤ 4000000) (hB : B ≤ w.heap.size)
    (h : ∀ v' w', OwnT w' B v' (ts ++ [t]) → w.grownBy w' v.ownBlock → wpList Try.prog ops Q rest (a.put o.dst v') w') : wpList Try.prog ops Q (o :: rest) a w := by
  obtain ⟨i0, hi, hz0, hz1, hz2⟩ := info_parts (P := Try.prog) (e := 30) (z := nilS) (size := 1) (bytes := 24) (by kernel_rfl)
  refine wpList_append_own _ hgd s x 22 ho B 30 i0 nilS 1 24 Try.underlying22 hi hz0 hz1 hz2 rfl (by decide) v ts.length (ts.map sv) hs hown ⟨g, 0, none⟩ 1 1 [sv t] hx rfl ?_ ?_ ?_ ?_ hB ?_
  · intro j u hj
    match j, hj with
    | 0, hj => simp at hj; subst hj; simpa [Addr.add] using hc
  · intro u hu; simp at hu; subst hu; rfl
  · unfold maxLen; omega
  · omega
  · intro v' w' h1 h2 _
    refine h v' w' ?_ h2
    unfold OwnT
    simpa using h1

def svOf (c : Ch) : SV := (some ⟨c.r, 0, none⟩, c.ss.length, c.cap)
/-- What zzSharedArrays has gathered of the first k chunks. -/
def Sel (cs : List Ch) (ep : Int) (k : Nat) (ids : List Nat) (ts : List SV) : Prop :=
  ts.length = ids.length ∧ ids.length ≤ k ∧ ∀ j (h : j < ids.length) (h2 : j < ts.length), ∃ hc : ids[j] < cs.length, cs[ids[j]].e ≠ ep ∧ ts[j] = svOf cs[ids[j]]

theorem Sel.skip {cs : List Ch} {ep : Int} {k : Nat} {ids : List Nat} {ts : List SV} (h : Sel cs ep k ids ts) : Sel cs ep (k + 1) ids ts := ⟨h.1, Nat.le_succ_of_le h.2.1, h.2.2⟩
theorem Sel.snoc {cs : List Ch} {ep : Int} {k : Nat} {ids : List Nat} {ts : List SV} (h : Sel cs ep k ids ts) (hk : k < cs.length) (he : cs[k].e ≠ ep) : Sel cs ep (k + 1) (ids ++ [k]) (ts ++ [svOf cs[k]]) := by
  obtain ⟨h1, h2, h3⟩ := h
  refine ⟨by simp [h1], by simp; omega, ?_⟩
  intro j hj hj2
  rcases Nat.lt_or_ge j ids.length with g | g
  · have g2 : j < ts.length := by omega
    obtain ⟨q1, q2, q3⟩ := h3 j g g2
    have e1 : (ids ++ [k])[j] = ids[j] := List.getElem_append_left g
    have e2 : (ts ++ [svOf cs[k]])[j] = ts[j] := List.getElem_append_left g2
    refine ⟨by rw [e1]; exact q1, ?_, ?_⟩
    · simp only [e1]; exact q2
    · rw [e2]; simp only [e1]; exact q3
  · have hje : j = ids.length := by simp at hj; omega
    subst hje
    have e1 : (ids ++ [k])[ids.length] = k := by simp
    have e2 : (ts ++ [svOf cs[k]])[ids.length]'hj2 = svOf cs[k] := by
      rw [List.getElem_append_right (by omega)]; simp
    refine ⟨by rw [e1]; exact hk, ?_, ?_⟩
    · simp only [e1]; exact he
    · rw [e2]; simp only [e1]

def RetShare (cs : List Ch) (ep : Int) (sh : Bool) (w : World) (e : Ending) (w' : World) : Prop :=
  ∃ v1 v2 ids ts, e = .returned (.tuple #[v1, v2]) ∧ OwnI w' w.heap.size v1 ids ∧ OwnT w' w.heap.size v2 ts ∧ Sel cs ep cs.length ids ts ∧ (sh = false → ids = []) ∧ Below w.heap.size w w'

set_option maxHeartbeats 4000000 in
theorem sharedArrays_any (B kb : Nat) (cs : List Ch) (ep : Int) (sh : Bool) (eo : Option Addr) (ec : Nat) (es : List Int) (hes : cs.map Ch.e = es) (hl : cs.length ≤ 2000000) (w : World) (hk : KAt B w kb cs ep sh) (he : NumsAt w eo es) :
    Calls Try.prog 16 #[.pointer (some ⟨kb, 0, none⟩), .slice eo es.length ec, .int .u64 ep, .bool sh] w fun e w' => RetShare cs ep sh w e w' := by
  cases sh with
  | false =>
    go_enter Try.func16, Try.ntmps16
    go_wp2
    go_ret2
    exact ⟨_, _, [], [], rfl, World.ownsRow_nil _ _ _ _, World.ownsRow_nil _ _ _ _, ⟨rfl, Nat.zero_le _, fun j h => by simp at h⟩, fun _ => rfl, Below.refl _ _⟩
  | true =>
    have hel : es.length = cs.length := by rw [← hes]; simp
    have HK : Hid (KAt B w kb cs ep true) := hk
    have HE : Hid (NumsAt w eo es) := he
    have HEE : Hid (∀ k (h : k < cs.length) (h2 : k < es.length), cs[k].e = es[k]) := by
      intro k h h2; subst hes; simp
    have HEL : Hid (es.length = cs.length) := hel
    have hl2 : es.length ≤ 2000000 := by omega
    clear hk he hes hel
    go_enter Try.func16, Try.ntmps16
    go_wp2
    go_loopw [10, 11, 12] (fun v1 v2 i wr => ∃ (k : Nat) (ids : List Nat) (ts : List SV), k ≤ es.length ∧ i = .int .i64 k ∧ OwnI wr w.heap.size v1 ids ∧ OwnT wr w.heap.size v2 ts ∧ Sel cs ep k ids ts ∧ Below w.heap.size w wr) (fun _ _ i _ => es.length - (intOf i).toNat)
    case atStart => exact ⟨0, [], [], Nat.zero_le _, rfl, World.ownsRow_nil _ _ _ _, World.ownsRow_nil _ _ _ _, ⟨rfl, Nat.zero_le _, fun j h => by simp at h⟩, Below.refl _ _⟩
    case round =>
      obtain ⟨k, ids, ts, hk, rfl, hi, ht, hsel, hbel⟩ := hrel
      have HS : Hid (Sel cs ep k ids ts) := hsel
      have hsz := hbel.size
      have hil : ids.length ≤ k := hsel.2.1
      have htl : ts.length ≤ k := by rw [hsel.1]; exact hil
      clear hsel
      by_cases hlt : k < es.length
      · obtain ⟨b, off, hao, hc⟩ := HE.out.below hbel k hlt
        subst hao
        have hx1 : (k : Int) < (es.length : Int) := by omega
        have hkc : k < cs.length := by rw [← HEL.out]; exact hlt
        have hee := HEE.out k hkc hlt
        cases hq : (es[k] != ep)
        · have HI : Hid (OwnI wr w.heap.size u10 ids) := hi
          have HT : Hid (OwnT wr w.heap.size u11 ts) := ht
          clear hi ht hee
          go_wp2
          go_roundw
          case rel => exact ⟨k + 1, ids, ts, by omega, by go_num, HI.out, HT.out, HS.out.skip, hbel⟩
          case measure => simp [intOf]; omega
        · have hne : cs[k].e ≠ ep := by rw [hee]; simpa using hq
          have HN : Hid (cs[k].e ≠ ep) := hne
          have HS2 : Hid (Sel cs ep (k + 1) (ids ++ [k]) (ts ++ [svOf cs[k]])) := HS.out.snoc hkc hne
          have HC : Hid (∀ w', Below w.heap.size w w' → Calls Try.prog 36 #[.pointer (some ⟨kb, 0, none⟩), .int .i64 k] w' fun e w2 => e = .returned (sv (svOf cs[k])) ∧ w2 = w') := fun w' hb => zzchunkKeys B kb cs ep true k w' (HK.out.below hb) hkc
          generalize svOf cs[k] = tk at *
          clear hee hne
          go_wp2_with (at_builtin; refine wpList_append_int rfl _ _ rfl w.heap.size _ ids rfl (hi.alloc _) wr.heap.size k rfl ?_ ?_ ?_ ?_)
          · simp
          · omega
          · simp; omega
          · intro v' w2 hi2 hgrow
            have hB2 : Below w.heap.size w w2 := Below.grown (w := wr.alloc _) (hbel.alloc (by omega) _) hgrow (by simp; omega) (fun q hq => (World.ownsRow.lt hi q hq).1)
            have ht2 : OwnT w2 w.heap.size u11 ts := World.ownsRow.kept (ht.alloc _) hgrow (own_apart ht hi (by decide))
            have hsz2 := hB2.size
            clear hgrow ht
            obtain ⟨k1, k2, k3⟩ := tk
            unfold sv at HC
            go_wp2_with (first | (go_at_call 36; refine (HC.out _ hB2).mono ?_; rintro e w' ⟨rfl, hww⟩; subst w') | (at_builtin; refine wpList_append_slc rfl _ _ rfl w.heap.size _ ts rfl (ht2.alloc _) w2.heap.size (k1, k2, k3) rfl ?_ ?_ ?_ ?_))
            · simp [sv]
            · omega
            · simp; omega
            · intro v3 w3 ht3 hgrow
              have HB3 : Hid (Below w.heap.size w w3) := Below.grown (w := w2.alloc _) (hB2.alloc (by omega) _) hgrow (by simp; omega) (fun q hq => (World.ownsRow.lt ht2 q hq).1)
              have HI3 : Hid (OwnI w3 w.heap.size v' (ids ++ [k])) := World.ownsRow.kept (hi2.alloc _) hgrow (own_apart hi2 ht2 (by decide))
              have HT3 : Hid (OwnT w3 w.heap.size v3 (ts ++ [(k1, k2, k3)])) := ht3
              clear hgrow ht3 ht2 hi2 hi
              go_wp2
              go_roundw
              case rel => exact ⟨k + 1, ids ++ [k], ts ++ [(k1, k2, k3)], by omega, by go_num, HI3.out, HT3.out, HS2.out, HB3.out⟩
              case measure => simp [intOf]; omega
      · have HI : Hid (OwnI wr w.heap.size u10 ids) := hi
        have HT : Hid (OwnT wr w.heap.size u11 ts) := ht
        clear hi ht
        go_wp2
        go_ret2
        have hke : k = cs.length := by have := HEL.out; omega
        subst hke
        exact ⟨_, _, ids, ts, rfl, HI.out, HT.out, HS.out, (fun h => by cases h), hbel⟩
end Go.Proofs.Qxb6619794a
