import Derived.Test.Qxb6619498aWv
namespace Go.Proofs.Qxb6619498a
open Go.RowKit

theorem nil39 (w : World) (a : Option Addr) (n c : Nat) : (binOp .eql 39 (.slice a n c) (.slice none 0 0)).run Try.prog w = .ok (.bool a.isNone) w := Lib.run_eql_slice_nil w 39 43 a n c 0 0 Try.underlying39
theorem nil41 (w : World) (a : Option Addr) (n c : Nat) : (binOp .eql 41 (.slice a n c) (.slice none 0 0)).run Try.prog w = .ok (.bool a.isNone) w := Lib.run_eql_slice_nil w 41 54 a n c 0 0 Try.underlying41
theorem nil38 (w : World) (a : Option Addr) (n c : Nat) : (binOp .eql 38 (.slice a n c) (.slice none 0 0)).run Try.prog w = .ok (.bool a.isNone) w := Lib.run_eql_slice_nil w 38 41 a n c 0 0 Try.underlying38

/-- zzSingleNamedCodes. -/
def RetOne (n : Nat) (qs : List Pt) (w : World) (e : Ending) (w' : World) : Prop :=
  e = .returned (.slice (some ⟨w.heap.size, 0, none⟩) n n) ∧ Blk w' w.heap.size (wordsOf n fun l => one l qs) 54 ∧ Below w.heap.size w w'

set_option maxHeartbeats 4000000 in
set_option maxRecDepth 100000 in
theorem singles (n : Nat) (hn : n ≤ 2000000) (ao : Option Addr) (cap : Nat) (qs : List Pt) (hin : PtsIn n qs) (hl : qs.length ≤ 2000000) (w : World) (hs : PsAt w ao qs) :
    Calls Try.prog 15 #[.int .i64 (n : Int), .slice ao qs.length cap] w fun e w' => RetOne n qs w e w' := by
  have HS : Hid (PsAt w ao qs) := hs
  have HIN : Hid (PtsIn n qs) := hin
  have hmk := make41 w n hn
  clear hs hin
  go_enter Try.func15, Try.ntmps15
  go_wp2_with fail
  obtain ⟨w1, hw1⟩ : ∃ w1, w.alloc (Obj.cells (wordsOf n fun _ => 0) 54) = w1 := ⟨_, rfl⟩
  rw [hw1]
  have b1 : Below w.heap.size w w1 := by rw [← hw1]; exact (Below.refl _ _).alloc (Nat.le_refl _) _
  have HN1 : Hid (Blk w1 w.heap.size (wordsOf n fun l => if l < 0 then one l qs else 0) 54) := by
    unfold Hid; rw [← hw1]
    exact Blk.new _ _ _
  clear hw1 hmk
  go_loopw [6] (fun i wr => ∃ k : Nat, k ≤ n ∧ i = .int .i64 k ∧ Blk wr w.heap.size (wordsOf n fun l => if l < k then one l qs else 0) 54 ∧ Below w.heap.size w wr) (fun i _ => n - (intOf i).toNat)
  case atStart => exact ⟨0, Nat.zero_le _, rfl, HN1.out, b1⟩
  case round =>
    obtain ⟨k, hk, rfl, hN, hbel⟩ := hrel
    have HN : Hid (Blk wr w.heap.size (wordsOf n fun l => if l < k then one l qs else 0) 54) := hN
    by_cases hlt : k < n
    · have hx1 : (k : Int) < (n : Int) := by omega
      clear hN
      go_wp2_with fail
      go_loopw [7, 8, 9] (fun nm cd i w2 => ∃ j : Nat, j ≤ qs.length ∧ i = .int .i64 j ∧ nm = .int .i64 (cnt k (qs.take j) : Int) ∧ cd = .int .u32 (cod k (qs.take j) : Int) ∧ w2 = wr) (fun _ _ i _ => qs.length - (intOf i).toNat)
      case atStart => exact ⟨0, Nat.zero_le _, rfl, by simp [cnt], by simp [cod], rfl⟩
      case round =>
        obtain ⟨j, hj, rfl, rfl, rfl, hww⟩ := hrel
        subst hww
        by_cases hjl : j < qs.length
        · obtain ⟨b, off, rfl, hc1, hc2⟩ := HS.out.below hbel j hjl
          have hy1 : (j : Int) < (qs.length : Int) := by omega
          have HC1 : Hid _ := cnt_step k hjl
          have HC2 : Hid _ := cod_step k hjl
          have hcl := cnt_le k (qs.take j)
          have hcl2 : (qs.take j).length ≤ j := List.length_take_le _ _
          have hq := HIN.out _ (List.getElem_mem hjl)
          generalize cnt k (qs.take j) = c at *
          generalize cod k (qs.take j) = d at *
          generalize qs[j] = q at *
          obtain ⟨ql, qv⟩ := q
          simp only at hc1 hc2 hq HC1 HC2 ⊢
          by_cases he : ql = k
          · have heb : ((ql : Int) == (k : Int)) = true := by simp [he]
            have hwr := wrap_u32 qv (by omega)
            go_wp2
            go_roundw
            case rel => exact ⟨j + 1, by omega, by go_num, by rw [HC1.out, if_pos he]; go_num, by rw [HC2.out, if_pos he], trivial⟩
            case measure => simp [intOf]; omega
          · have heb : ((ql : Int) == (k : Int)) = false := by simp; omega
            go_wp2
            go_roundw
            case rel => exact ⟨j + 1, by omega, by go_num, by rw [HC1.out, if_neg he], by rw [HC2.out, if_neg he], trivial⟩
            case measure => simp [intOf]; omega
        · have hje : j = qs.length := by omega
          subst hje
          rw [List.take_of_length_le (Nat.le_refl _)]
          have H1 : Hid (one k qs = if cnt k qs = 1 then cod k qs else 0) := rfl
          have hcl := cnt_le k qs
          generalize cnt k qs = c at *
          generalize cod k qs = d at *
          have hc := HN.out.cell k
          rw [wordsOf_get _ hlt, if_neg (by omega)] at hc
          have hf := HN.out.free k
          by_cases he : c = 1
          · have heb : ((c : Int) == 1) = true := by simp [he]
            go_wp2
            go_roundw
            case rel =>
              refine ⟨k + 1, by omega, by go_num, ?_, hbel.setCell (Nat.le_refl _) _⟩
              have := HN.out.set k (.int .u32 (d : Int))
              rw [wordsOf_set] at this
              rw [wordsOf_congr (g := fun j => if j = k then d else if j < k then one j qs else 0)]
              · exact this
              · intro i hi
                by_cases h1 : i = k
                · subst h1; simp [H1.out, he]
                · by_cases h2 : i < k
                  · rw [if_pos (by omega), if_neg h1, if_pos h2]
                  · rw [if_neg (by omega), if_neg h1, if_neg h2]
            case measure => simp [intOf]; omega
          · have heb : ((c : Int) == 1) = false := by simp; omega
            go_wp2
            go_roundw
            case rel =>
              refine ⟨k + 1, by omega, by go_num, ?_, hbel⟩
              rw [wordsOf_congr (g := fun l => if l < k then one l qs else 0)]
              · exact HN.out
              · intro i hi
                by_cases h1 : i = k
                · subst h1; simp [H1.out, he]
                · by_cases h2 : i < k
                  · rw [if_pos (by omega), if_pos h2]
                  · rw [if_neg (by omega), if_neg h2]
            case measure => simp [intOf]; omega
    · have hke : k = n := by omega
      subst hke
      clear hN
      go_wp2
      go_ret
      refine ⟨rfl, ?_, hbel⟩
      rw [wordsOf_congr (g := fun l => if l < k then one l qs else 0) (fun i hi => by rw [if_pos hi])]
      exact HN.out

/-- zzAdversaryParts. -/
def RetAdv (qs : List Pt) (w : World) (e : Ending) (w' : World) : Prop :=
  ∃ ao cap, e = .returned (.slice ao qs.length cap) ∧ PartsB w' ao qs ∧ Below w.heap.size w w'

set_option maxHeartbeats 4000000 in
set_option maxRecDepth 100000 in
theorem advParts (ao : Option Addr) (cap : Nat) (qs : List Pt) (hl : qs.length ≤ 2000000) (w : World) (hs : PsAt w ao qs) :
    Calls Try.prog 11 #[.slice ao qs.length cap] w fun e w' => RetAdv qs w e w' := by
  cases ao with
  | none =>
    obtain rfl := hs.nil
    have hnil := nil39
    go_enter Try.func11, Try.ntmps11
    go_wp2
    go_ret
    exact ⟨none, 0, rfl, .inl ⟨rfl, rfl⟩, Below.refl _ _⟩
  | some a0 =>
    have HS : Hid (PsAt w (some a0) qs) := hs
    clear hs
    obtain ⟨C, hC, hmk⟩ := make45 w qs.length hl
    have hnil := nil39
    go_enter Try.func11, Try.ntmps11
    go_wp2_with fail
    obtain ⟨w1, hw1⟩ : ∃ w1, w.alloc (Obj.cells C 79) = w1 := ⟨_, rfl⟩
    rw [hw1]
    have b1 : Below w.heap.size w w1 := by rw [← hw1]; exact (Below.refl _ _).alloc (Nat.le_refl _) _
    have HN1 : Hid (Blk w1 w.heap.size C 79) := by unfold Hid; rw [← hw1]; exact Blk.new _ _ _
    have HC : Hid (C.size = qs.length * 2) := hC
    clear hw1 hmk hC
    go_loopw [4] (fun i wr => ∃ (k : Nat) (C' : Array Value), k ≤ qs.length ∧ i = .int .i64 k ∧ Blk wr w.heap.size C' 79 ∧ C'.size = qs.length * 2 ∧ (∀ j (h : j < qs.length), j < k → C'[j * 2]? = some (.int .i64 (qs[j].1 : Int)) ∧ C'[j * 2 + 1]? = some (.int .i64 (qs[j].2 : Int))) ∧ Below w.heap.size w wr) (fun i _ => qs.length - (intOf i).toNat)
    case atStart => exact ⟨0, C, Nat.zero_le _, rfl, HN1.out, HC.out, fun j _ h => by omega, b1⟩
    case round =>
      obtain ⟨k, C', hk, rfl, hN, hCs, hcs, hbel⟩ := hrel
      have HCS : Hid (C'.size = qs.length * 2) := hCs
      have HCC : Hid (∀ j (h : j < qs.length), j < k → C'[j * 2]? = some (.int .i64 (qs[j].1 : Int)) ∧ C'[j * 2 + 1]? = some (.int .i64 (qs[j].2 : Int))) := hcs
      have HN : Hid (Blk wr w.heap.size C' 79) := hN
      by_cases hlt : k < qs.length
      · obtain ⟨b, off, hao, hc1, hc2⟩ := HS.out.below hbel k hlt
        cases hao
        have hx1 : (k : Int) < (qs.length : Int) := by omega
        have q : ∀ o, o < qs.length * 2 → ∃ v, wr.cell? ⟨w.heap.size, o, none⟩ = some v := fun o ho => ⟨C'[o]'(by omega), by rw [hN.cell]; simp [hCs, ho]⟩
        obtain ⟨v0, q0⟩ := q (k * 2) (by omega)
        obtain ⟨v1, q1⟩ := q (k * 2 + 1) (by omega)
        have z0 := hN.free (k * 2)
        have z1 := hN.free (k * 2 + 1)
        have HST : Hid (∀ q1 q2, qs[k].1 = q1 → qs[k].2 = q2 → ∀ j (h : j < qs.length), j < k + 1 → ((C'.setIfInBounds (k * 2) (.int .i64 (q1 : Int))).setIfInBounds (k * 2 + 1) (.int .i64 (q2 : Int)))[j * 2]? = some (.int .i64 (qs[j].1 : Int)) ∧ ((C'.setIfInBounds (k * 2) (.int .i64 (q1 : Int))).setIfInBounds (k * 2 + 1) (.int .i64 (q2 : Int)))[j * 2 + 1]? = some (.int .i64 (qs[j].2 : Int))) := by
          intro q1 q2 h1 h2 j hj hjk
          subst h1 h2
          simp only [Array.getElem?_setIfInBounds, Array.size_setIfInBounds, hCs]
          by_cases hjk2 : j = k
          · subst hjk2
            refine ⟨?_, ?_⟩
            · rw [if_neg (by omega), if_pos rfl, if_pos (by omega)]
            · rw [if_pos rfl, if_pos (by omega)]
          · obtain ⟨h1, h2⟩ := HCC.out j hj (by omega)
            refine ⟨?_, ?_⟩
            · rw [if_neg (by omega), if_neg (by omega)]; exact h1
            · rw [if_neg (by omega), if_neg (by omega)]; exact h2
        clear hN hcs hCs q
        generalize hgk : qs[k] = gk at *
        obtain ⟨nk, vk⟩ := gk
        have HST2 : Hid _ := HST.out nk vk rfl rfl
        simp only at hc1 hc2
        clear HST hgk
        go_wp2_with fail
        go_region
        all_goals
          go_wp2
          go_roundw
          case rel => exact ⟨k + 1, _, by omega, by go_num, (HN.out.set _ _).set _ _, by simp [HCS.out], HST2.out, (hbel.drew.setCell (Nat.le_refl _) _).setCell (Nat.le_refl _) _⟩
          case measure => simp [intOf]; omega
      · have hke : k = qs.length := by omega
        subst hke
        clear hN hcs hCs
        go_wp2
        go_ret
        exact ⟨_, _, rfl, .inr ⟨_, C', rfl, HN.out, fun j h => HCC.out j h h⟩, hbel⟩
end Go.Proofs.Qxb6619498a
