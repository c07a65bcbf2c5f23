import Derived.Test.Qxb6619794aCopyK
namespace Go.Proofs.Qxb6619794a
open Go.RowKit

def RetStrs (ss : List ByteArray) (w : World) (e : Ending) (w' : World) : Prop :=
  ∃ ao cap, e = .returned (.slice ao ss.length cap) ∧ StrsAt w' ao ss ∧ Below w.heap.size w w'

theorem strs_of_own {w : World} {B : Nat} {v : Value} {ss : List ByteArray} {n : Nat} (h : w.ownsRow B 9 1 v n (ss.map Value.string)) (hn : n = ss.length) : ∃ ao cap, v = .slice ao ss.length cap ∧ StrsAt w ao ss := by
  subst hn
  obtain ⟨h1, h⟩ := h
  rcases h with ⟨rfl, h0⟩ | ⟨g, cap, cur, rfl, _, hg, hc, _, hsz, htk⟩
  · refine ⟨none, 0, by rw [h0], fun j hj => by omega⟩
  · refine ⟨some ⟨g, 0, none⟩, cap, rfl, fun j hj => ⟨g, 0, rfl, ?_⟩⟩
    rw [Nat.zero_add, World.cell?, hg]
    simp only [Option.isSome_none, Bool.false_eq_true, if_false]
    have : (cur.toList.take (ss.length * 1))[j]? = some (.string ss[j]) := by rw [htk]; simp [hj]
    rw [List.getElem?_take_of_lt (by omega)] at this
    simpa using this

theorem ownsRow_n {w : World} {B e size : Nat} {v : Value} {n m : Nat} {xs : List Value} (h : w.ownsRow B e size v n xs) (he : n = m) : w.ownsRow B e size v m xs := he ▸ h

/-- The call's own slice of strings. -/
def OwnS (w : World) (B : Nat) (v : Value) (ss : List ByteArray) : Prop := w.ownsRow B 9 1 v ss.length (ss.map Value.string)

theorem OwnS.alloc {w : World} {B : Nat} {v : Value} {ss : List ByteArray} (h : OwnS w B v ss) (o : Obj) : OwnS (w.alloc o) B v ss := World.ownsRow.alloc h o

/-- 'out = append(out, s)' on a slice of strings of the call's own. -/
theorem wpList_append_str {w : World} {ops : Array Oper} {rest : List Oper} {o : Oper} {a : Act} {Q : Exit → Act → World → Prop} (hgd : o.guard = none) (s x : Operand)
    (ho : o.op = .call { callee := .builtin .append, args := #[s, x], argTypes := #[30, 30] })
    (B : Nat) (v : Value) (ss : List ByteArray) (hs : a.eval s = v) (hown : OwnS w B v ss) (g : Nat) (str : ByteArray) (hx : a.eval x = .slice (some ⟨g, 0, none⟩) 1 1) (hc : w.cell? ⟨g, 0, none⟩ = some (.string str))
    (hlen : ss.length ≤ 4000000) (hB : B ≤ w.heap.size)
    (h : ∀ v' w', OwnS w' B v' (ss ++ [str]) → w.grownBy w' v.ownBlock → wpList Try.prog ops Q rest (a.put o.dst v') w') : wpList Try.prog ops Q (o :: rest) a w := by
  obtain ⟨i0, hi, hz0, hz1, hz2⟩ := info_parts (P := Try.prog) (e := 9) (z := .string ByteArray.empty) (size := 1) (bytes := 16) (by kernel_rfl)
  refine wpList_append_own _ hgd s x 30 ho B 9 i0 (.string ByteArray.empty) 1 16 Try.underlying30 hi hz0 hz1 hz2 rfl (by decide) v ss.length (ss.map Value.string) hs hown ⟨g, 0, none⟩ 1 1 [.string str] hx rfl ?_ ?_ ?_ ?_ hB ?_
  · intro j u hj
    match j, hj with
    | 0, hj => simp at hj; subst hj; simpa [Addr.add] using hc
  · intro u hu; simp at hu; subst hu; rfl
  · unfold maxLen; omega
  · omega
  · intro v' w' h1 h2 _
    refine h v' w' ?_ h2
    unfold OwnS
    simpa using h1

theorem OwnS.strs {w : World} {B : Nat} {v : Value} {ss : List ByteArray} (h : OwnS w B v ss) : ∃ ao cap, v = .slice ao ss.length cap ∧ StrsAt w ao ss := strs_of_own h rfl

theorem OwnS.row {w : World} {B : Nat} {v : Value} {ss : List ByteArray} (h : OwnS w B v ss) : ∀ k, v.ownBlock = some k → B ≤ k := fun k hk => (World.ownsRow.lt h k hk).1

theorem StrsAt.grown {w w' : World} {ao : Option Addr} {ss : List ByteArray} {w0 : World} (h : StrsAt w0 ao ss) (hb : Below w0.heap.size w0 w) (hb2 : Below w0.heap.size w w') : StrsAt w' ao ss := h.below (hb.trans hb2)

set_option maxHeartbeats 1000000 in
theorem flatten_any (ao : Option Addr) (cap : Nat) (sss : List (List ByteArray)) (hl : sss.length ≤ 2000000) (hf : sss.flatten.length ≤ 2000000) (w : World) (hs : RowsAt w ao sss) :
    Calls Try.prog 13 #[.slice ao sss.length cap] w fun e w' => RetStrs sss.flatten w e w' := by
  have HS : Hid (RowsAt w ao sss) := hs
  clear hs
  go_enter Try.func13, Try.ntmps13
  go_wp2
  go_loopw [3, 4] (fun v i wr => ∃ (k : Nat) (acc : List ByteArray), k ≤ sss.length ∧ i = .int .i64 k ∧ OwnS wr w.heap.size v acc ∧ acc = (sss.take k).flatten ∧ Below w.heap.size w wr) (fun _ i _ => sss.length - (intOf i).toNat)
  case atStart => exact ⟨0, [], Nat.zero_le _, rfl, World.ownsRow_nil _ _ _ _, rfl, Below.refl _ _⟩
  case round =>
    obtain ⟨k, acc, hk, rfl, hown, hacc, hbel⟩ := hrel
    have HACC : Hid (acc = (sss.take k).flatten) := hacc
    clear hacc
    by_cases hlt : k < sss.length
    · obtain ⟨b, off, c, ccap, hao, hc0, hss⟩ := HS.out k hlt
      subst hao
      have hc := cell_below hc0 hbel
      have hpk := pre_le sss (k + 1)
      rw [pre_step hlt] at hpk
      unfold pre at hpk
      rw [← HACC.out] at hpk
      have HSS : Hid (StrsAt w c sss[k]) := hss
      have HOW : Hid (OwnS wr w.heap.size u3 acc) := hown
      clear hss hown
      go_wp2
      go_loopw [3, 6] (fun v i wr => ∃ (j : Nat) (ac2 : List ByteArray), j ≤ sss[k].length ∧ i = .int .i64 j ∧ OwnS wr w.heap.size v ac2 ∧ ac2 = acc ++ sss[k].take j ∧ Below w.heap.size w wr) (fun _ i _ => sss[k].length - (intOf i).toNat)
      case atStart => exact ⟨0, acc, Nat.zero_le _, rfl, HOW.out, by simp, hbel⟩
      case round =>
        obtain ⟨j, ac2, hj, rfl, hown, hac2, hbel2⟩ := hrel
        have hal : ac2.length = acc.length + min j sss[k].length := by rw [hac2]; simp
        have hal2 : ac2.length ≤ 2000000 := by omega
        have HAC2 : Hid (ac2 = acc ++ sss[k].take j) := hac2
        clear hac2 hal
        by_cases hjl : j < sss[k].length
        · obtain ⟨cb, co, hao1, hc1⟩ := HSS.out.below hbel2 j hjl
          subst hao1
          have hsz := hbel2.size
          go_wp2_with (at_builtin; refine wpList_append_str rfl _ _ rfl w.heap.size _ ac2 rfl (hown.alloc _) wr.heap.size sss[k][j] rfl ?_ ?_ ?_ ?_)
          · simp
          · omega
          · simp; omega
          · intro v' w2 hown' hgrow
            have HOW2 : Hid (OwnS w2 w.heap.size v' (ac2 ++ [sss[k][j]])) := hown'
            have hrow := hown.row
            have HBB : Hid (Below w.heap.size w w2) := (hbel2.alloc hsz _).grown hgrow (by simp; omega) hrow
            clear hown' hgrow hown hrow
            go_wp2
            go_roundw
            case rel => exact ⟨j + 1, ac2 ++ [sss[k][j]], by omega, by go_num, HOW2.out, by rw [HAC2.out, take_snoc _ _ hjl, List.append_assoc], HBB.out⟩
            case measure => simp [intOf]; omega
        · have HOW2 : Hid (OwnS wr w.heap.size u3 ac2) := hown
          clear hown
          go_wp2
          go_roundw
          case rel => exact ⟨k + 1, ac2, by omega, by go_num, HOW2.out, by rw [HAC2.out, HACC.out, take_snoc _ _ hlt, List.flatten_append, show sss[k].take j = sss[k] from List.take_of_length_le (by omega)]; simp, hbel2⟩
          case measure => simp [intOf]; omega
    · go_wp2
      go_ret
      have hke : k = sss.length := by omega
      subst hke
      have hown2 := hown
      rw [HACC.out, List.take_of_length_le (Nat.le_refl _)] at hown2
      obtain ⟨ao', cap', hv, hst⟩ := hown2.strs
      exact ⟨ao', cap', by rw [← hv]; rfl, hst, hbel⟩
end Go.Proofs.Qxb6619794a
