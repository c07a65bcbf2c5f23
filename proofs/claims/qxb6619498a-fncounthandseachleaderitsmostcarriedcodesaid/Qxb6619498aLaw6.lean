import Derived.Test.Qxb6619498aBy18
import Derived.Test.Qxb6619498aFin
import Derived.Test.Qxb6619498aWch
namespace Go.Proofs.Qxb6619498a
open Go.RowKit

set_option maxHeartbeats 8000000 in
set_option maxRecDepth 100000 in
theorem law6 (n t step first stop width block : Int) (ho : Option Addr) (hcap : Nat) (hs : List HM) (co : Option Addr) (ccap : Nat) (cds : List CD) (w : World) (hn64 : n ≤ 9223372036854775807) (hh : HeardAt w ho hs) (hu : ∀ h ∈ hs, ∀ y ∈ h.ws, y ≤ 4294967295) (hc : CastsA w co cds) :
    Calls Try.prog 6 #[.int .i64 n, .int .i64 t, .int .i64 step, .int .i64 first, .int .i64 stop, .int .i64 width, .int .i64 block, .slice ho hs.length hcap, .slice co cds.length ccap] w fun e w' => e = .returned (.bool true) ∧ Below w.heap.size w w' := by
  have HH : Hid (HeardAt w ho hs) := hh
  have HU : Hid (∀ h ∈ hs, ∀ y ∈ h.ws, y ≤ 4294967295) := hu
  have HC : Hid (CastsA w co cds) := hc
  clear hh hu hc
  go_enter Try.func6, Try.ntmps6
  go_wp2_with fail
  refine (bytes18 n t step first stop width block ho hcap hs co cds.length ccap w HH.out).mono ?_
  rintro e w' ⟨⟨b, rfl⟩, hww⟩; subst w'
  cases b
  · go_wp2_with fail
    go_ret
    exact ⟨rfl, Below.refl _ _⟩
  by_cases hbig : (4096 : Int) < (hs.length : Int)
  · have hbd : decide ((4096 : Int) < (hs.length : Int)) = true := by rw [decide_eq_true_iff]; exact hbig
    go_wp2_with fail
    go_ret
    exact ⟨rfl, Below.refl _ _⟩
  have hbd : decide ((4096 : Int) < (hs.length : Int)) = false := by rw [decide_eq_false_iff_not]; exact hbig
  by_cases hbig2 : (4096 : Int) < (cds.length : Int)
  · have hbd2 : decide ((4096 : Int) < (cds.length : Int)) = true := by rw [decide_eq_true_iff]; exact hbig2
    go_wp2_with fail
    go_ret
    exact ⟨rfl, Below.refl _ _⟩
  have hbd2 : decide ((4096 : Int) < (cds.length : Int)) = false := by rw [decide_eq_false_iff_not]; exact hbig2
  have hl : hs.length ≤ 4096 := by omega
  have hcl : cds.length ≤ 4096 := by omega
  obtain ⟨a0, ha0⟩ : ∃ a0, IntKind.i64.wrap (48 * (cds.length : Int)) = a0 := ⟨_, rfl⟩
  clear hbig hbig2
  go_wp2_with fail
  clear ha0
  go_loop [19, 20] (fun z i => ∃ (k : Nat) (y : Int), k ≤ hs.length ∧ i = .int .i64 k ∧ z = .int .i64 y ∧ ∀ c ∈ hs.take k, c.ws.length ≤ 1048576) (fun _ i => hs.length - (intOf i).toNat)
  case atStart => exact ⟨0, _, Nat.zero_le _, rfl, rfl, fun c hc => by simp at hc⟩
  case round =>
    obtain ⟨k, y, hk, rfl, rfl, hin⟩ := hrel
    have HIN : Hid (∀ c ∈ hs.take k, c.ws.length ≤ 1048576) := hin
    clear hin
    by_cases hlt : k < hs.length
    · obtain ⟨b, off, rfl, _, hc2, _⟩ := HH.out k hlt
      have hx1 : (k : Int) < (hs.length : Int) := by omega
      have HST : Hid (hs[k].ws.length ≤ 1048576 → ∀ c ∈ hs.take (k + 1), c.ws.length ≤ 1048576) := by
        intro h c hc
        rw [take_snoc _ _ hlt] at hc
        rcases List.mem_append.1 hc with q | q
        · exact HIN.out c q
        · simp at q; subst q; exact h
      generalize hs[k] = c at *
      obtain ⟨fr, wao, wcap, ws⟩ := c
      simp only at hc2 HST
      by_cases h1 : (1048576 : Int) < (ws.length : Int)
      · have hd1 : decide ((1048576 : Int) < (ws.length : Int)) = true := by rw [decide_eq_true_iff]; exact h1
        go_wp2
        go_ret
        exact ⟨rfl, Below.refl _ _⟩
      have hd1 : decide ((1048576 : Int) < (ws.length : Int)) = false := by rw [decide_eq_false_iff_not]; exact h1
      obtain ⟨a1, ha1⟩ : ∃ a1, IntKind.i64.wrap (4 * (ws.length : Int)) = a1 := ⟨_, rfl⟩
      obtain ⟨a2, ha2⟩ : ∃ a2, IntKind.i64.wrap (32 + a1) = a2 := ⟨_, rfl⟩
      obtain ⟨y2, hy2⟩ : ∃ y2, IntKind.i64.wrap (y + a2) = y2 := ⟨_, rfl⟩
      by_cases h2 : (1048576 : Int) < y2
      · have hd2 : decide ((1048576 : Int) < y2) = true := by rw [decide_eq_true_iff]; exact h2
        go_wp2
        go_ret
        exact ⟨rfl, Below.refl _ _⟩
      have hd2 : decide ((1048576 : Int) < y2) = false := by rw [decide_eq_false_iff_not]; exact h2
      go_wp2
      go_round
      case rel => exact ⟨k + 1, _, by omega, by go_num, rfl, HST.out (by omega)⟩
      case measure => simp [intOf]; omega
    have hke : k = hs.length := by omega
    have HWL : Hid (∀ c ∈ hs, c.ws.length ≤ 1048576) := by have := HIN.out; rw [hke, List.take_of_length_le (Nat.le_refl _)] at this; exact this
    clear HIN hke
    as_aux_lemma =>
    by_cases h2 : (1048576 : Int) < y
    · have hd2 : decide ((1048576 : Int) < y) = true := by rw [decide_eq_true_iff]; exact h2
      go_wp2
      go_ret
      exact ⟨rfl, Below.refl _ _⟩
    have hd2 : decide ((1048576 : Int) < y) = false := by rw [decide_eq_false_iff_not]; exact h2
    by_cases g1 : width < 1
    · have d1 : decide (width < 1) = true := by rw [decide_eq_true_iff]; exact g1
      go_wp2
      go_ret
      exact ⟨rfl, Below.refl _ _⟩
    have d1 : decide (width < 1) = false := by rw [decide_eq_false_iff_not]; exact g1
    by_cases g2 : 65536 < width
    · have d2 : decide (65536 < width) = true := by rw [decide_eq_true_iff]; exact g2
      go_wp2
      go_ret
      exact ⟨rfl, Below.refl _ _⟩
    have d2 : decide (65536 < width) = false := by rw [decide_eq_false_iff_not]; exact g2
    by_cases g3 : block < 0
    · have d3 : decide (block < 0) = true := by rw [decide_eq_true_iff]; exact g3
      go_wp2
      go_ret
      exact ⟨rfl, Below.refl _ _⟩
    have d3 : decide (block < 0) = false := by rw [decide_eq_false_iff_not]; exact g3
    obtain ⟨W, rfl⟩ : ∃ W : Nat, width = (W : Int) := ⟨width.toNat, by omega⟩
    obtain ⟨B, rfl⟩ : ∃ B : Nat, block = (B : Int) := ⟨block.toNat, by omega⟩
    obtain ⟨qd, hqd⟩ : ∃ qd : Nat, 65536 / W = qd := ⟨_, rfl⟩
    have hW1 : 1 ≤ W := by omega
    have hW2 : W ≤ 65536 := by omega
    have w1 : (65536 : Int) / (W : Int) = (qd : Int) := by rw [← hqd]; simp
    have hqdl : qd ≤ 65536 := by rw [← hqd]; exact Nat.div_le_self _ _
    have w2 : IntKind.i64.wrap (qd : Int) = (qd : Int) := wrap_nat _ (by omega)
    have HQD : Hid (65536 / W = qd) := hqd
    clear hqd g1 g2 g3 h2
    by_cases g4 : qd < B
    · have d4 : decide ((qd : Int) < (B : Int)) = true := by rw [decide_eq_true_iff]; omega
      have d4n : decide (qd < B) = true := by rw [decide_eq_true_iff]; omega
      go_wp2
      all_goals
        go_ret
        exact ⟨rfl, Below.refl _ _⟩
    have d4 : decide ((qd : Int) < (B : Int)) = false := by rw [decide_eq_false_iff_not]; omega
    have d4n : decide (qd < B) = false := by rw [decide_eq_false_iff_not]; omega
    have hBW : B * W ≤ 65536 := by
      have h1 : B ≤ 65536 / W := by rw [HQD.out]; omega
      exact (Nat.le_div_iff_mul_le (by omega)).1 h1
    clear g4
    by_cases g1 : n < 1
    · have d1 : decide (n < 1) = true := by rw [decide_eq_true_iff]; exact g1
      go_wp2
      go_ret
      exact ⟨rfl, Below.refl _ _⟩
    have e1 : decide (n < 1) = false := by rw [decide_eq_false_iff_not]; exact g1
    by_cases g2 : t < 0
    · have d2 : decide (t < 0) = true := by rw [decide_eq_true_iff]; exact g2
      go_wp2
      go_ret
      exact ⟨rfl, Below.refl _ _⟩
    have e2 : decide (t < 0) = false := by rw [decide_eq_false_iff_not]; exact g2
    by_cases g3 : n ≤ t
    · have d3 : decide (n ≤ t) = true := by rw [decide_eq_true_iff]; exact g3
      go_wp2
      go_ret
      exact ⟨rfl, Below.refl _ _⟩
    have e3 : decide (n ≤ t) = false := by rw [decide_eq_false_iff_not]; exact g3
    have HNT : Hid (NT n t) := ⟨by omega, hn64, by omega, by omega⟩
    by_cases g4 : first < 0
    · have d4 : decide (first < 0) = true := by rw [decide_eq_true_iff]; exact g4
      go_wp2
      go_ret
      exact ⟨rfl, Below.refl _ _⟩
    have e4 : decide (first < 0) = false := by rw [decide_eq_false_iff_not]; exact g4
    by_cases g5 : stop < first
    · have d5 : decide (stop < first) = true := by rw [decide_eq_true_iff]; exact g5
      go_wp2
      go_ret
      exact ⟨rfl, Below.refl _ _⟩
    have e5 : decide (stop < first) = false := by rw [decide_eq_false_iff_not]; exact g5
    by_cases g6 : (cds.length : Int) < stop
    · have d6 : decide ((cds.length : Int) < stop) = true := by rw [decide_eq_true_iff]; exact g6
      go_wp2
      go_ret
      exact ⟨rfl, Below.refl _ _⟩
    have e6 : decide ((cds.length : Int) < stop) = false := by rw [decide_eq_false_iff_not]; exact g6
    have w3 : IntKind.i64.wrap (stop - first) = stop - first := wrap_id (by omega) (by omega)
    by_cases g7 : (B : Int) < stop - first
    · have d7 : decide ((B : Int) < stop - first) = true := by rw [decide_eq_true_iff]; exact g7
      go_wp2
      go_ret
      exact ⟨rfl, Below.refl _ _⟩
    have e7 : decide ((B : Int) < stop - first) = false := by rw [decide_eq_false_iff_not]; exact g7
    obtain ⟨F, rfl⟩ : ∃ F : Nat, first = (F : Int) := ⟨first.toNat, by omega⟩
    obtain ⟨S, rfl⟩ : ∃ S : Nat, stop = (S : Int) := ⟨stop.toNat, by omega⟩
    have hFS : F ≤ S := by omega
    have hSK : S ≤ cds.length := by omega
    have hSB : S - F ≤ B := by omega
    have e5n : decide (S < F) = false := by rw [decide_eq_false_iff_not]; omega
    have e6n : decide (cds.length < S) = false := by rw [decide_eq_false_iff_not]; omega
    clear g1 g2 g3 g4 g5 g6 g7
    go_wp2_with fail
    clear e1 e2 e3 e4 e5 e6 e7 e5n e6n w3 d1 d2 d3 d4 d4n w1 w2 hd2
    go_loop [21] (fun i => ∃ k : Nat, k ≤ hs.length ∧ i = .int .i64 k ∧ ∀ c ∈ hs.take k, S ≤ c.ws.length ∧ ∀ l, F ≤ l → l < S → c.ws.getD l 0 < W) (fun i => hs.length - (intOf i).toNat)
    case atStart => exact ⟨0, Nat.zero_le _, rfl, fun c hc => by simp at hc⟩
    case round =>
      obtain ⟨k, hk, rfl, hin⟩ := hrel
      have HIN : Hid (∀ c ∈ hs.take k, S ≤ c.ws.length ∧ ∀ l, F ≤ l → l < S → c.ws.getD l 0 < W) := hin
      clear hin
      by_cases hlt : k < hs.length
      · obtain ⟨b, off, rfl, _, hc2, hwo⟩ := HH.out k hlt
        have hx1 : (k : Int) < (hs.length : Int) := by omega
        have HST : Hid ((S ≤ hs[k].ws.length ∧ ∀ l, F ≤ l → l < S → hs[k].ws.getD l 0 < W) → ∀ c ∈ hs.take (k + 1), S ≤ c.ws.length ∧ ∀ l, F ≤ l → l < S → c.ws.getD l 0 < W) := by
          intro h c hc
          rw [take_snoc _ _ hlt] at hc
          rcases List.mem_append.1 hc with q | q
          · exact HIN.out c q
          · simp at q; subst q; exact h
        have huk := HU.out _ (List.getElem_mem hlt)
        generalize hs[k] = c at *
        obtain ⟨fr, wao, wcap, ws⟩ := c
        simp only at hc2 HST hwo huk
        have HWO : Hid (WO w wao ws) := hwo
        have HUK : Hid (∀ y ∈ ws, y ≤ 4294967295) := huk
        clear hwo huk
        obtain ⟨wn, hwn⟩ : ∃ wn, ws.length = wn := ⟨_, rfl⟩
        have HWN : Hid (ws.length = wn) := hwn
        rw [hwn] at hc2 HST
        clear hwn
        by_cases g1 : wn < S
        · have d1 : decide ((wn : Int) < (S : Int)) = true := by rw [decide_eq_true_iff]; omega
          have d1n : decide (wn < S) = true := by rw [decide_eq_true_iff]; omega
          go_wp2
          all_goals
            go_ret
            exact ⟨rfl, Below.refl _ _⟩
        have d1 : decide ((wn : Int) < (S : Int)) = false := by rw [decide_eq_false_iff_not]; omega
        have d1n : decide (wn < S) = false := by rw [decide_eq_false_iff_not]; omega
        go_wp2_with fail
        clear d1 d1n
        go_loop [23] (fun i => ∃ j : Nat, F ≤ j ∧ j ≤ S ∧ i = .int .i64 j ∧ ∀ l, F ≤ l → l < j → ws.getD l 0 < W) (fun i => S - (intOf i).toNat)
        case atStart => exact ⟨F, Nat.le_refl _, hFS, rfl, fun l h1 h2 => by omega⟩
        case round =>
          obtain ⟨j, hj0, hj, rfl, hin⟩ := hrel
          have HIN2 : Hid (∀ l, F ≤ l → l < j → ws.getD l 0 < W) := hin
          clear hin
          by_cases hjl : j < S
          · have hjw : j < ws.length := by rw [HWN.out]; omega
            obtain ⟨b2, o2, ha2, hc3⟩ := HWO.out j hjw
            subst ha2
            obtain ⟨y, hy⟩ : ∃ y, ws[j] = y := ⟨_, rfl⟩
            have HY : Hid (ws.getD j 0 = y) := by unfold Hid; rw [← hy]; simp [hjw]
            have hyl : y ≤ 4294967295 := by rw [← hy]; exact HUK.out _ (List.getElem_mem hjw)
            rw [hy] at hc3
            clear hy
            have hyw : IntKind.i64.wrap (y : Int) = (y : Int) := wrap_nat _ (by omega)
            have hx2 : (j : Int) < (S : Int) := by omega
            have hx3 : (j : Int) < (wn : Int) := by omega
            clear hjw
            by_cases g2 : W ≤ y
            · have d2 : decide ((W : Int) ≤ (y : Int)) = true := by rw [decide_eq_true_iff]; omega
              have d2n : decide (W ≤ y) = true := by rw [decide_eq_true_iff]; omega
              go_wp2
              all_goals
                go_ret
                exact ⟨rfl, Below.refl _ _⟩
            have d2 : decide ((W : Int) ≤ (y : Int)) = false := by rw [decide_eq_false_iff_not]; omega
            have d2n : decide (W ≤ y) = false := by rw [decide_eq_false_iff_not]; omega
            go_wp2
            go_round
            case rel =>
              refine ⟨j + 1, by omega, by omega, by go_num, fun l h1 h2 => ?_⟩
              by_cases hlj : l = j
              · subst hlj; rw [HY.out]; omega
              · exact HIN2.out l h1 (by omega)
            case measure => simp [intOf]; omega
          · have hje : j = S := by omega
            have HJE : Hid (j = S) := hje
            have d2 : decide ((j : Int) < (S : Int)) = false := by rw [decide_eq_false_iff_not]; omega
            clear hje
            go_wp2
            go_round
            case rel => exact ⟨k + 1, by omega, by go_num, HST.out ⟨by omega, fun l h1 h2 => HIN2.out l h1 (by rw [HJE.out]; exact h2)⟩⟩
            case measure => simp [intOf]; omega
      have hke : k = hs.length := by omega
      have HBD : Hid (∀ c ∈ hs, S ≤ c.ws.length ∧ ∀ l, F ≤ l → l < S → c.ws.getD l 0 < W) := by have := HIN.out; rw [hke, List.take_of_length_le (Nat.le_refl _)] at this; exact this
      clear HIN hke
      as_aux_lemma =>
      have HHW : Hid (∀ c ∈ hs, c.ws.length ≤ 2000000) := fun c hc => by have := HWL.out c hc; omega
      obtain ⟨H, hH⟩ : ∃ H, hs.length = H := ⟨_, rfl⟩
      have HHL : Hid (hs.length = H) := hH
      have HH0 : Hid (ho = none → H = 0) := by
        intro h0
        rw [← hH]
        rcases Nat.eq_zero_or_pos hs.length with h | h
        · exact h
        · obtain ⟨_, _, h1, _⟩ := HH.out 0 h
          rw [h0] at h1; cases h1
      obtain ⟨A0, hA0, mk0⟩ := make64 w H (by omega)
      have HA0 : Hid (A0.size = H) := by unfold Hid; rw [hA0, intsOf_size]
      obtain ⟨fb, hfb⟩ : ∃ fb, w.heap.size = fb := ⟨_, rfl⟩
      have HFB : Hid (w.heap.size = fb) := hfb
      rw [hH] at hl hk
      rw [hH]
      clear hA0 HWL
      have hkx : decide ((k : Int) < (H : Int)) = false := by rw [decide_eq_false_iff_not]; omega
      have hkn : ¬ k < H := by omega
      have hkxn : decide (k < H) = false := by rw [decide_eq_false_iff_not]; omega
      clear hH
      go_upto_if 187 with fail
      go_cut [24, 25] from 59 to 300 (fun s24 s25 wx => s24 = .slice (some ⟨fb, 0, none⟩) H H ∧ ∃ bo, s25 = .slice bo H H ∧ ((bo = none ∧ H = 0) ∨ ∃ N2 C, bo = some ⟨N2, 0, none⟩ ∧ fb < N2 ∧ Blk wx N2 C 41 ∧ C.size = H) ∧ FilledTo wx fb H 0 3 (fun j => .int .i64 hs[j]!.fr) ∧ Below fb w wx)
      case first =>
        cases ho with
        | none =>
          have HZ : Hid (H = 0) := HH0.out rfl
          go_wp2_with fail
          go_meet
          refine ⟨rfl, none, by rw [HZ.out], .inl ⟨rfl, HZ.out⟩, ?_, ?_⟩
          · have := FilledTo.new w A0 3 (fun j => .int .i64 hs[j]!.fr) HA0.out
            rw [HFB.out] at this; exact this
          · rw [← HFB.out]; exact (Below.refl _ _).alloc (Nat.le_refl _) _
        | some a0 =>
          obtain ⟨C, hC, mk1⟩ := make38 (w.alloc (.cells A0 3)) H (by omega)
          have HCS : Hid (C.size = H) := by unfold Hid; rw [hC]; simp
          clear hC
          go_wp2_with fail
          go_meet
          refine ⟨rfl, some ⟨fb + 1, 0, none⟩, rfl, .inr ⟨fb + 1, C, rfl, by omega, ?_, HCS.out⟩, ?_, ?_⟩
          · have := Blk.new (w.alloc (.cells A0 3)) C 41
            rw [World.size_alloc, HFB.out] at this; exact this
          · have := (FilledTo.new w A0 3 (fun j => .int .i64 hs[j]!.fr) HA0.out).alloc (.cells C 41)
            rw [HFB.out] at this; exact this
          · rw [← HFB.out]; exact ((Below.refl _ _).alloc (Nat.le_refl _) _).alloc (by simp) _
      case rest =>
      as_aux_lemma =>
      obtain ⟨rfl, bo, rfl, hbo, hF0, hb0⟩ := hcut
      have HBO : Hid ((bo = none ∧ H = 0) ∨ ∃ N2 C, bo = some ⟨N2, 0, none⟩ ∧ fb < N2 ∧ Blk wc N2 C 41 ∧ C.size = H) := hbo
      have HF0 : Hid (FilledTo wc fb H 0 3 (fun j => .int .i64 hs[j]!.fr)) := hF0
      clear hbo hF0 mk0 hkx hkn hkxn
      go_wp2_with fail
      go_loopw [26] (fun i wr => ∃ (k : Nat) (hs' : List HM), k ≤ H ∧ i = .int .i64 k ∧ hs'.length = k ∧ (∀ j (h : j < hs'.length), hs'[j].ws = hs[j]!.ws ∧ hs'[j].fr = hs[j]!.fr ∧ ((hs'[j].ao = none ∧ hs'[j].ws = []) ∨ ∃ b, hs'[j].ao = some ⟨b, 0, none⟩ ∧ Blk wr b (wl hs'[j].ws) 54)) ∧
        ((bo = none ∧ H = 0) ∨ ∃ N2 C, bo = some ⟨N2, 0, none⟩ ∧ fb < N2 ∧ Blk wr N2 C 41 ∧ C.size = H ∧ ∀ j (h : j < hs'.length), C[j]? = some (.slice hs'[j].ao hs'[j].ws.length hs'[j].ws.length)) ∧ FilledTo wr fb H k 3 (fun j => .int .i64 hs[j]!.fr) ∧ Below fb w wr) (fun i _ => H - (intOf i).toNat)
      case atStart =>
        refine ⟨0, [], Nat.zero_le _, rfl, rfl, fun j hj => by simp at hj, ?_, HF0.out, hb0⟩
        rcases HBO.out with h | ⟨N2, C, h1, h2, h3, h4⟩
        · exact .inl h
        · exact .inr ⟨N2, C, h1, h2, h3, h4, fun j hj => by simp at hj⟩
      case round =>
        obtain ⟨k, hs', hk2, rfl, hkl, hbd2, hrow, hF, hbel⟩ := hrel
        have HKL : Hid (hs'.length = k) := hkl
        have HBD2 : Hid (∀ j (h : j < hs'.length), hs'[j].ws = hs[j]!.ws ∧ hs'[j].fr = hs[j]!.fr ∧ ((hs'[j].ao = none ∧ hs'[j].ws = []) ∨ ∃ b, hs'[j].ao = some ⟨b, 0, none⟩ ∧ Blk wr b (wl hs'[j].ws) 54)) := hbd2
        have HFF : Hid (FilledTo wr fb H k 3 (fun j => .int .i64 hs[j]!.fr)) := hF
        clear hbd2 hkl
        by_cases hlt2 : k < H
        · have hkh : k < hs.length := by rw [HHL.out]; exact hlt2
          have hbw : Below w.heap.size w wr := by rw [HFB.out]; exact hbel
          obtain ⟨b, off, hao, e1, e2, _⟩ := HH.out.below hbw k hkh
          subst hao
          rcases hrow with ⟨_, h0⟩ | ⟨N2, C, hboe, hN2, hB, hC, hcs⟩
          · omega
          subst hboe
          have HB : Hid (Blk wr N2 C 41) := hB
          have HCS : Hid (C.size = H) := hC
          have HCC : Hid (∀ j (h : j < hs'.length), C[j]? = some (.slice hs'[j].ao hs'[j].ws.length hs'[j].ws.length)) := hcs
          obtain ⟨v0, q0⟩ := hF.has hlt2
          have f0 := hF.free k
          have hbl : b < fb := by
            obtain ⟨b', off', h1, h2, _, _⟩ := HH.out k hkh
            have := cell_lt h2
            cases h1
            rw [HFB.out] at this; exact this
          have n1 : b ≠ fb := by omega
          have n2 : fb ≠ b := by omega
          have hx1 : (k : Int) < (H : Int) := by omega
          have HGK : Hid (hs[k]! = hs[k]) := by unfold Hid; simp [hkh]
          have hwlk := HHW.out _ (List.getElem_mem hkh)
          have H19 : Hid (∀ X, Below fb w X → Calls Try.prog 19 #[.slice hs[k].ao hs[k].ws.length hs[k].cap] X fun e w' => RetCl hs[k].ws X e w') := by
            intro X hX
            rw [← HFB.out] at hX
            obtain ⟨_, _, _, _, _, h5⟩ := HH.out.below hX k hkh
            exact cloneWords _ _ _ hwlk X h5
          obtain ⟨g, hg⟩ : ∃ g, hs[k] = g := ⟨_, rfl⟩
          rw [hg] at e1 e2 H19 HGK
          clear hg hwlk
          obtain ⟨fr, gao, gcap, ws⟩ := g
          simp only at e1 e2 H19
          have HYF : Hid (FilledTo (wr.setCell ⟨fb, k, none⟩ (.int .i64 fr)) fb H (k + 1) 3 (fun j => .int .i64 hs[j]!.fr)) := HFF.out.set hlt2 (by simp only [HGK.out])
          have HYB : Hid (Blk (wr.setCell ⟨fb, k, none⟩ (.int .i64 fr)) N2 C 41) := HB.out.set_ne (by omega) _ _
          have HYK : Hid (∀ b D, Blk wr b D 54 → Blk (wr.setCell ⟨fb, k, none⟩ (.int .i64 fr)) b D 54) := by
            intro b' D hB'
            obtain ⟨C3, h3, _⟩ := HFF.out
            exact hB'.set_ne (hB'.type_ne h3 (by decide)) _ _
          have hYb : Below fb w (wr.setCell ⟨fb, k, none⟩ (.int .i64 fr)) := hbel.setCell (p := ⟨fb, k, none⟩) (Nat.le_refl _) _
          clear hB hC hcs hF hbw
          go_wp2_with fail
          refine Calls.mono (H19.out _ hYb) ?_
          rintro e w2 ⟨ao2, rfl, hcl, hb2⟩
          generalize wr.setCell ⟨fb, k, none⟩ (.int .i64 fr) = Y at *
          have HB2 : Hid (Blk w2 N2 C 41) := HYB.out.below hb2 HYB.out.lt
          have HF2 : Hid (FilledTo w2 fb H (k + 1) 3 (fun j => .int .i64 hs[j]!.fr)) := HYF.out.below hb2
          have hb02 : Below fb w w2 := hYb.trans (hb2.mono (by have := hYb.size; rw [HFB.out] at this; exact this))
          have HCL : Hid ((ao2 = none ∧ ws = []) ∨ (ao2 = some ⟨Y.heap.size, 0, none⟩ ∧ Blk w2 Y.heap.size (wl ws) 54)) := hcl
          have HK2 : Hid (∀ b D, Blk wr b D 54 → Blk w2 b D 54) := fun b' D hB' => (HYK.out b' D hB').below hb2 (HYK.out b' D hB').lt
          have q1 : ∃ v, w2.cell? ⟨N2, k, none⟩ = some v := ⟨C[k]'(by rw [HCS.out]; exact hlt2), by rw [HB2.out.cell]; simp⟩
          obtain ⟨v1, q1⟩ := q1
          have f1 := HB2.out.free k
          clear hcl hb2 HYF HYB HYK q0 f0 e1 e2 H19
          go_wp2
          go_roundw
          case rel =>
            have hkl := HKL.out
            refine ⟨k + 1, hs' ++ [⟨fr, ao2, 0, ws⟩], by omega, by go_num, by simp [hkl], fun j hj => ?_, .inr ⟨N2, _, rfl, hN2, HB2.out.set k _, by simp [HCS.out], fun j hj => ?_⟩, HF2.out.set_ne (by omega), hb02.setCell (p := ⟨N2, k, none⟩) (by simp only; omega) _⟩
            · rcases Nat.lt_or_ge j hs'.length with g | g
              · rw [List.getElem_append_left g]
                obtain ⟨h1, h2, h3⟩ := HBD2.out j g
                refine ⟨h1, h2, ?_⟩
                rcases h3 with h4 | ⟨b', h4, h5⟩
                · exact .inl h4
                · exact .inr ⟨b', h4, (HK2.out _ _ h5).set_ne ((HK2.out _ _ h5).type_ne HB2.out (by decide)) _ _⟩
              · have hje : j = k := by simp at hj; omega
                subst hje
                rw [List.getElem_append_right g]
                simp only [hkl, Nat.sub_self, List.getElem_cons_zero, HGK.out]
                refine ⟨trivial, trivial, ?_⟩
                rcases HCL.out with h4 | ⟨h4, h5⟩
                · exact .inl h4
                · exact .inr ⟨_, h4, h5.set_ne (h5.type_ne HB2.out (by decide)) _ _⟩
            · rw [Array.getElem?_setIfInBounds]
              rcases Nat.lt_or_ge j hs'.length with g | g
              · rw [if_neg (by omega), List.getElem_append_left g]; exact HCC.out j g
              · have hje : j = k := by simp at hj; omega
                subst hje
                rw [if_pos rfl, if_pos (by rw [HCS.out]; exact hlt2), List.getElem_append_right g]
                simp only [hkl, Nat.sub_self, List.getElem_cons_zero]
          case measure => simp [intOf]; omega
        · have hke2 : k = H := by omega
          have hkx : decide ((k : Int) < (H : Int)) = false := by rw [decide_eq_false_iff_not]; omega
          have hkn : ¬ k < H := by omega
          have HROW : Hid ((bo = none ∧ H = 0) ∨ ∃ N2 C, bo = some ⟨N2, 0, none⟩ ∧ fb < N2 ∧ Blk wr N2 C 41 ∧ C.size = H ∧ ∀ j (h : j < hs'.length), C[j]? = some (.slice hs'[j].ao hs'[j].ws.length hs'[j].ws.length)) := hrow
          have HKE : Hid (k = H) := hke2
          clear hrow hF hke2
          as_aux_lemma =>
          obtain ⟨W0, hW0⟩ : ∃ W0, W0 = wr := ⟨_, rfl⟩
          subst hW0
          obtain ⟨K, hK⟩ : ∃ K, cds.length = K := ⟨_, rfl⟩
          have HK : Hid (cds.length = K) := hK
          rw [hK] at hcl hSK
          rw [hK]
          clear hK
          obtain ⟨N, hN⟩ : ∃ N, W0.heap.size = N := ⟨_, rfl⟩
          have HN : Hid (W0.heap.size = N) := hN
          have hfbN : fb ≤ N := by have := hbel.size; have := HFB.out; omega
          obtain ⟨A0, hA0, mk0⟩ := make64 (W0) K (by omega)
          have HS0 : Hid (A0.size = K) := by unfold Hid; rw [hA0, intsOf_size]
          clear hA0
          obtain ⟨A1, hA1, mk1⟩ := make64 ((W0).alloc (.cells A0 3)) K (by omega)
          have HS1 : Hid (A1.size = K) := by unfold Hid; rw [hA1, intsOf_size]
          clear hA1
          obtain ⟨A2, hA2, mk2⟩ := make66 (((W0).alloc (.cells A0 3)).alloc (.cells A1 3)) K (by omega)
          have HS2 : Hid (A2.size = K) := hA2
          clear hA2
          obtain ⟨A3, hA3, mk3⟩ := make64 ((((W0).alloc (.cells A0 3)).alloc (.cells A1 3)).alloc (.cells A2 4)) K (by omega)
          have HS3 : Hid (A3.size = K) := by unfold Hid; rw [hA3, intsOf_size]
          clear hA3
          obtain ⟨A4, hA4, mk4⟩ := make64 (((((W0).alloc (.cells A0 3)).alloc (.cells A1 3)).alloc (.cells A2 4)).alloc (.cells A3 3)) K (by omega)
          have HS4 : Hid (A4.size = K) := by unfold Hid; rw [hA4, intsOf_size]
          clear hA4
          obtain ⟨A5, hA5, mk5⟩ := make66 ((((((W0).alloc (.cells A0 3)).alloc (.cells A1 3)).alloc (.cells A2 4)).alloc (.cells A3 3)).alloc (.cells A4 3)) K (by omega)
          have HS5 : Hid (A5.size = K) := hA5
          clear hA5
          go_wp2_with fail
          obtain ⟨B1, hB1⟩ : ∃ B1, N + 1 = B1 := ⟨_, rfl⟩
          rw [hB1]
          obtain ⟨B2, hB2⟩ : ∃ B2, B1 + 1 = B2 := ⟨_, rfl⟩
          rw [hB2]
          obtain ⟨B3, hB3⟩ : ∃ B3, B2 + 1 = B3 := ⟨_, rfl⟩
          rw [hB3]
          obtain ⟨B4, hB4⟩ : ∃ B4, B3 + 1 = B4 := ⟨_, rfl⟩
          rw [hB4]
          obtain ⟨B5, hB5⟩ : ∃ B5, B4 + 1 = B5 := ⟨_, rfl⟩
          rw [hB5]
          have HB : Hid (N + 1 = B1 ∧ N + 2 = B2 ∧ N + 3 = B3 ∧ N + 4 = B4 ∧ N + 5 = B5) := ⟨by omega, by omega, by omega, by omega, by omega⟩
          obtain ⟨wa, hwa⟩ : ∃ wa, ((((((W0.alloc (Obj.cells A0 3)).alloc (Obj.cells A1 3)).alloc (Obj.cells A2 4)).alloc (Obj.cells A3 3)).alloc (Obj.cells A4 3)).alloc (Obj.cells A5 4)) = wa := ⟨_, rfl⟩
          rw [hwa]
          have b1 : Below N W0 wa := by
            rw [← hwa, ← hN]
            exact ((((((Below.refl _ _).alloc (Nat.le_refl _) _).alloc (by simp) _).alloc (by simp; omega) _).alloc (by simp; omega) _).alloc (by simp; omega) _).alloc (by simp; omega) _
          have HF0 : Hid (FilledTo wa N K 0 3 (fld0 cds)) := by
            have h := ((((((FilledTo.new (W0) A0 3 (fld0 cds) HS0.out).alloc (Obj.cells A1 3)).alloc (Obj.cells A2 4)).alloc (Obj.cells A3 3)).alloc (Obj.cells A4 3)).alloc (Obj.cells A5 4))
            simp only [hN] at h
            unfold Hid; rw [← hwa]
            have e : N = N := by omega
            rw [e]; exact h
          have HF1 : Hid (FilledTo wa B1 K 0 3 (fld1 cds)) := by
            have h := (((((FilledTo.new ((W0.alloc (Obj.cells A0 3))) A1 3 (fld1 cds) HS1.out).alloc (Obj.cells A2 4)).alloc (Obj.cells A3 3)).alloc (Obj.cells A4 3)).alloc (Obj.cells A5 4))
            simp only [World.size_alloc, hN] at h
            unfold Hid; rw [← hwa]
            have e : B1 = N + 1 := by omega
            rw [e]; exact h
          have HF2 : Hid (FilledTo wa B2 K 0 4 (fld2 cds)) := by
            have h := ((((FilledTo.new (((W0.alloc (Obj.cells A0 3)).alloc (Obj.cells A1 3))) A2 4 (fld2 cds) HS2.out).alloc (Obj.cells A3 3)).alloc (Obj.cells A4 3)).alloc (Obj.cells A5 4))
            simp only [World.size_alloc, hN] at h
            unfold Hid; rw [← hwa]
            have e : B2 = N + 1 + 1 := by omega
            rw [e]; exact h
          have HF3 : Hid (FilledTo wa B3 K 0 3 (fld3 cds)) := by
            have h := (((FilledTo.new ((((W0.alloc (Obj.cells A0 3)).alloc (Obj.cells A1 3)).alloc (Obj.cells A2 4))) A3 3 (fld3 cds) HS3.out).alloc (Obj.cells A4 3)).alloc (Obj.cells A5 4))
            simp only [World.size_alloc, hN] at h
            unfold Hid; rw [← hwa]
            have e : B3 = N + 1 + 1 + 1 := by omega
            rw [e]; exact h
          have HF4 : Hid (FilledTo wa B4 K 0 3 (fld4 cds)) := by
            have h := ((FilledTo.new (((((W0.alloc (Obj.cells A0 3)).alloc (Obj.cells A1 3)).alloc (Obj.cells A2 4)).alloc (Obj.cells A3 3))) A4 3 (fld4 cds) HS4.out).alloc (Obj.cells A5 4))
            simp only [World.size_alloc, hN] at h
            unfold Hid; rw [← hwa]
            have e : B4 = N + 1 + 1 + 1 + 1 := by omega
            rw [e]; exact h
          have HF5 : Hid (FilledTo wa B5 K 0 4 (fld5 cds)) := by
            have h := (FilledTo.new ((((((W0.alloc (Obj.cells A0 3)).alloc (Obj.cells A1 3)).alloc (Obj.cells A2 4)).alloc (Obj.cells A3 3)).alloc (Obj.cells A4 3))) A5 4 (fld5 cds) HS5.out)
            simp only [World.size_alloc, hN] at h
            unfold Hid; rw [← hwa]
            have e : B5 = N + 1 + 1 + 1 + 1 + 1 := by omega
            rw [e]; exact h
          clear hwa hB1 hB2 hB3 hB4 hB5 mk0 mk1 mk2 mk3 mk4 mk5
          clear hN
          go_loopw [34] (fun i wx => ∃ k : Nat, k ≤ K ∧ i = .int .i64 k ∧ FilledTo wx N K k 3 (fld0 cds) ∧ FilledTo wx B1 K k 3 (fld1 cds) ∧ FilledTo wx B2 K k 4 (fld2 cds) ∧ FilledTo wx B3 K k 3 (fld3 cds) ∧ FilledTo wx B4 K k 3 (fld4 cds) ∧ FilledTo wx B5 K k 4 (fld5 cds) ∧ Below N W0 wx) (fun i _ => K - (intOf i).toNat)
          case atStart => exact ⟨0, Nat.zero_le _, rfl, HF0.out, HF1.out, HF2.out, HF3.out, HF4.out, HF5.out, b1⟩
          case round =>
            obtain ⟨k, hk3, rfl, h0, h1, h2, h3, h4, h5, hbx⟩ := hrel
            have hbxw := hbel.trans (hbx.mono hfbN)
            by_cases hlt3 : k < K
            · have hkc : k < cds.length := by rw [HK.out]; exact hlt3
              have HRD0 : ∀ Y, Below fb w Y → ∃ b off, co = some ⟨b, off, none⟩ ∧ Y.cell? ⟨b, off + k * 6, none⟩ = some (.int .i64 cds[k].leader) ∧ Y.cell? ⟨b, off + k * 6 + 1, none⟩ = some (.int .i64 cds[k].next) ∧ Y.cell? ⟨b, off + k * 6 + 2, none⟩ = some (.bool cds[k].sends) ∧ Y.cell? ⟨b, off + k * 6 + 3, none⟩ = some (.int .i64 cds[k].gv) ∧ Y.cell? ⟨b, off + k * 6 + 4, none⟩ = some (.int .i64 cds[k].gc) ∧ Y.cell? ⟨b, off + k * 6 + 5, none⟩ = some (.bool cds[k].graded) := by
                intro Y hY
                rw [← HFB.out] at hY
                exact HC.out.below hY k hkc
              have HDE : Hid (cds[k]! = cds[k]) := by unfold Hid; simp [hkc]
              obtain ⟨d, hd⟩ : ∃ d, cds[k] = d := ⟨_, rfl⟩
              rw [hd] at HRD0 HDE
              clear hd hkc
              obtain ⟨dl, dn, ds, dv, dc, dg⟩ := d
              simp only at HRD0
              obtain ⟨cb, coff, hco, _⟩ := HRD0 _ hbxw
              subst hco
              have HRD : Hid (∀ Y, Below fb w Y → Y.cell? ⟨cb, coff + k * 6, none⟩ = some (.int .i64 dl) ∧ Y.cell? ⟨cb, coff + k * 6 + 1, none⟩ = some (.int .i64 dn) ∧ Y.cell? ⟨cb, coff + k * 6 + 2, none⟩ = some (.bool ds) ∧ Y.cell? ⟨cb, coff + k * 6 + 3, none⟩ = some (.int .i64 dv) ∧ Y.cell? ⟨cb, coff + k * 6 + 4, none⟩ = some (.int .i64 dc) ∧ Y.cell? ⟨cb, coff + k * 6 + 5, none⟩ = some (.bool dg)) := by
                intro Y hY
                obtain ⟨b', off', e1, e2⟩ := HRD0 Y hY
                cases e1
                exact e2
              clear HRD0
              have hx1 : (k : Int) < (K : Int) := by omega
              have HST : Hid ((FilledTo wr N K k 3 (fld0 cds) ∧ FilledTo wr B1 K k 3 (fld1 cds) ∧ FilledTo wr B2 K k 4 (fld2 cds) ∧ FilledTo wr B3 K k 3 (fld3 cds) ∧ FilledTo wr B4 K k 3 (fld4 cds) ∧ FilledTo wr B5 K k 4 (fld5 cds)) ∧ Below fb w wr ∧ Below N W0 wr) := And.intro ⟨h0, h1, h2, h3, h4, h5⟩ (And.intro hbxw hbx)
              clear h0 h1 h2 h3 h4 h5 hbxw hbx
              obtain ⟨⟨s0, s1, s2, s3, s4, s5⟩, sb, sc⟩ := HST.out
              obtain ⟨g0, g1, g2, g3, g4, g5⟩ := HRD.out wr sb
              obtain ⟨v0, q0⟩ := s0.has hlt3
              have f0 := s0.free k
              clear s0 s1 s2 s3 s4 s5 sc
              go_upto_region 53 with fail
              refine gen_world (Pr := fun X => Code.wp Try.prog _ _ _ X) (fun Y => (FilledTo Y N K (k + 1) 3 (fld0 cds) ∧ FilledTo Y B1 K k 3 (fld1 cds) ∧ FilledTo Y B2 K k 4 (fld2 cds) ∧ FilledTo Y B3 K k 3 (fld3 cds) ∧ FilledTo Y B4 K k 3 (fld4 cds) ∧ FilledTo Y B5 K k 4 (fld5 cds)) ∧ Below fb w Y ∧ Below N W0 Y) ?_ ?_
              · obtain ⟨⟨s0, s1, s2, s3, s4, s5⟩, sb, sc⟩ := HST.out
                have hBB := HB.out
                exact ⟨⟨s0.set hlt3 (by unfold fld0; rw [HDE.out]), s1.set_ne (by omega), s2.set_ne (by omega), s3.set_ne (by omega), s4.set_ne (by omega), s5.set_ne (by omega)⟩, sb.setCell (p := ⟨N, k, none⟩) (show fb ≤ N by omega) _, sc.setCell (p := ⟨N, k, none⟩) (show N ≤ N by omega) _⟩
              clear q0 f0 g0 g1 g2 g3 g4 g5 sb
              intro Y1 hY
              have HST1 : Hid ((FilledTo Y1 N K (k + 1) 3 (fld0 cds) ∧ FilledTo Y1 B1 K k 3 (fld1 cds) ∧ FilledTo Y1 B2 K k 4 (fld2 cds) ∧ FilledTo Y1 B3 K k 3 (fld3 cds) ∧ FilledTo Y1 B4 K k 3 (fld4 cds) ∧ FilledTo Y1 B5 K k 4 (fld5 cds)) ∧ Below fb w Y1 ∧ Below N W0 Y1) := hY
              clear hY
              obtain ⟨⟨s0, s1, s2, s3, s4, s5⟩, sb, sc⟩ := HST1.out
              obtain ⟨g0, g1, g2, g3, g4, g5⟩ := HRD.out Y1 sb
              obtain ⟨v1, q1⟩ := s1.has hlt3
              have f1 := s1.free k
              clear s0 s1 s2 s3 s4 s5 sc
              go_upto_region 54 with fail
              refine gen_world (Pr := fun X => Code.wp Try.prog _ _ _ X) (fun Y => (FilledTo Y N K (k + 1) 3 (fld0 cds) ∧ FilledTo Y B1 K (k + 1) 3 (fld1 cds) ∧ FilledTo Y B2 K k 4 (fld2 cds) ∧ FilledTo Y B3 K k 3 (fld3 cds) ∧ FilledTo Y B4 K k 3 (fld4 cds) ∧ FilledTo Y B5 K k 4 (fld5 cds)) ∧ Below fb w Y ∧ Below N W0 Y) ?_ ?_
              · obtain ⟨⟨s0, s1, s2, s3, s4, s5⟩, sb, sc⟩ := HST1.out
                have hBB := HB.out
                exact ⟨⟨s0.set_ne (by omega), s1.set hlt3 (by unfold fld1; rw [HDE.out]), s2.set_ne (by omega), s3.set_ne (by omega), s4.set_ne (by omega), s5.set_ne (by omega)⟩, sb.setCell (p := ⟨B1, k, none⟩) (show fb ≤ B1 by omega) _, sc.setCell (p := ⟨B1, k, none⟩) (show N ≤ B1 by omega) _⟩
              clear q1 f1 g0 g1 g2 g3 g4 g5 sb
              intro Y2 hY
              have HST2 : Hid ((FilledTo Y2 N K (k + 1) 3 (fld0 cds) ∧ FilledTo Y2 B1 K (k + 1) 3 (fld1 cds) ∧ FilledTo Y2 B2 K k 4 (fld2 cds) ∧ FilledTo Y2 B3 K k 3 (fld3 cds) ∧ FilledTo Y2 B4 K k 3 (fld4 cds) ∧ FilledTo Y2 B5 K k 4 (fld5 cds)) ∧ Below fb w Y2 ∧ Below N W0 Y2) := hY
              clear hY
              obtain ⟨⟨s0, s1, s2, s3, s4, s5⟩, sb, sc⟩ := HST2.out
              obtain ⟨g0, g1, g2, g3, g4, g5⟩ := HRD.out Y2 sb
              obtain ⟨v2, q2⟩ := s2.has hlt3
              have f2 := s2.free k
              clear s0 s1 s2 s3 s4 s5 sc
              go_upto_region 55 with fail
              refine gen_world (Pr := fun X => Code.wp Try.prog _ _ _ X) (fun Y => (FilledTo Y N K (k + 1) 3 (fld0 cds) ∧ FilledTo Y B1 K (k + 1) 3 (fld1 cds) ∧ FilledTo Y B2 K (k + 1) 4 (fld2 cds) ∧ FilledTo Y B3 K k 3 (fld3 cds) ∧ FilledTo Y B4 K k 3 (fld4 cds) ∧ FilledTo Y B5 K k 4 (fld5 cds)) ∧ Below fb w Y ∧ Below N W0 Y) ?_ ?_
              · obtain ⟨⟨s0, s1, s2, s3, s4, s5⟩, sb, sc⟩ := HST2.out
                have hBB := HB.out
                exact ⟨⟨s0.set_ne (by omega), s1.set_ne (by omega), s2.set hlt3 (by unfold fld2; rw [HDE.out]), s3.set_ne (by omega), s4.set_ne (by omega), s5.set_ne (by omega)⟩, sb.setCell (p := ⟨B2, k, none⟩) (show fb ≤ B2 by omega) _, sc.setCell (p := ⟨B2, k, none⟩) (show N ≤ B2 by omega) _⟩
              clear q2 f2 g0 g1 g2 g3 g4 g5 sb
              intro Y3 hY
              have HST3 : Hid ((FilledTo Y3 N K (k + 1) 3 (fld0 cds) ∧ FilledTo Y3 B1 K (k + 1) 3 (fld1 cds) ∧ FilledTo Y3 B2 K (k + 1) 4 (fld2 cds) ∧ FilledTo Y3 B3 K k 3 (fld3 cds) ∧ FilledTo Y3 B4 K k 3 (fld4 cds) ∧ FilledTo Y3 B5 K k 4 (fld5 cds)) ∧ Below fb w Y3 ∧ Below N W0 Y3) := hY
              clear hY
              obtain ⟨⟨s0, s1, s2, s3, s4, s5⟩, sb, sc⟩ := HST3.out
              obtain ⟨g0, g1, g2, g3, g4, g5⟩ := HRD.out Y3 sb
              obtain ⟨v3, q3⟩ := s3.has hlt3
              have f3 := s3.free k
              clear s0 s1 s2 s3 s4 s5 sc
              go_upto_region 56 with fail
              refine gen_world (Pr := fun X => Code.wp Try.prog _ _ _ X) (fun Y => (FilledTo Y N K (k + 1) 3 (fld0 cds) ∧ FilledTo Y B1 K (k + 1) 3 (fld1 cds) ∧ FilledTo Y B2 K (k + 1) 4 (fld2 cds) ∧ FilledTo Y B3 K (k + 1) 3 (fld3 cds) ∧ FilledTo Y B4 K k 3 (fld4 cds) ∧ FilledTo Y B5 K k 4 (fld5 cds)) ∧ Below fb w Y ∧ Below N W0 Y) ?_ ?_
              · obtain ⟨⟨s0, s1, s2, s3, s4, s5⟩, sb, sc⟩ := HST3.out
                have hBB := HB.out
                exact ⟨⟨s0.set_ne (by omega), s1.set_ne (by omega), s2.set_ne (by omega), s3.set hlt3 (by unfold fld3; rw [HDE.out]), s4.set_ne (by omega), s5.set_ne (by omega)⟩, sb.setCell (p := ⟨B3, k, none⟩) (show fb ≤ B3 by omega) _, sc.setCell (p := ⟨B3, k, none⟩) (show N ≤ B3 by omega) _⟩
              clear q3 f3 g0 g1 g2 g3 g4 g5 sb
              intro Y4 hY
              have HST4 : Hid ((FilledTo Y4 N K (k + 1) 3 (fld0 cds) ∧ FilledTo Y4 B1 K (k + 1) 3 (fld1 cds) ∧ FilledTo Y4 B2 K (k + 1) 4 (fld2 cds) ∧ FilledTo Y4 B3 K (k + 1) 3 (fld3 cds) ∧ FilledTo Y4 B4 K k 3 (fld4 cds) ∧ FilledTo Y4 B5 K k 4 (fld5 cds)) ∧ Below fb w Y4 ∧ Below N W0 Y4) := hY
              clear hY
              obtain ⟨⟨s0, s1, s2, s3, s4, s5⟩, sb, sc⟩ := HST4.out
              obtain ⟨g0, g1, g2, g3, g4, g5⟩ := HRD.out Y4 sb
              obtain ⟨v4, q4⟩ := s4.has hlt3
              have f4 := s4.free k
              clear s0 s1 s2 s3 s4 s5 sc
              go_upto_region 57 with fail
              refine gen_world (Pr := fun X => Code.wp Try.prog _ _ _ X) (fun Y => (FilledTo Y N K (k + 1) 3 (fld0 cds) ∧ FilledTo Y B1 K (k + 1) 3 (fld1 cds) ∧ FilledTo Y B2 K (k + 1) 4 (fld2 cds) ∧ FilledTo Y B3 K (k + 1) 3 (fld3 cds) ∧ FilledTo Y B4 K (k + 1) 3 (fld4 cds) ∧ FilledTo Y B5 K k 4 (fld5 cds)) ∧ Below fb w Y ∧ Below N W0 Y) ?_ ?_
              · obtain ⟨⟨s0, s1, s2, s3, s4, s5⟩, sb, sc⟩ := HST4.out
                have hBB := HB.out
                exact ⟨⟨s0.set_ne (by omega), s1.set_ne (by omega), s2.set_ne (by omega), s3.set_ne (by omega), s4.set hlt3 (by unfold fld4; rw [HDE.out]), s5.set_ne (by omega)⟩, sb.setCell (p := ⟨B4, k, none⟩) (show fb ≤ B4 by omega) _, sc.setCell (p := ⟨B4, k, none⟩) (show N ≤ B4 by omega) _⟩
              clear q4 f4 g0 g1 g2 g3 g4 g5 sb
              intro Y5 hY
              have HST5 : Hid ((FilledTo Y5 N K (k + 1) 3 (fld0 cds) ∧ FilledTo Y5 B1 K (k + 1) 3 (fld1 cds) ∧ FilledTo Y5 B2 K (k + 1) 4 (fld2 cds) ∧ FilledTo Y5 B3 K (k + 1) 3 (fld3 cds) ∧ FilledTo Y5 B4 K (k + 1) 3 (fld4 cds) ∧ FilledTo Y5 B5 K k 4 (fld5 cds)) ∧ Below fb w Y5 ∧ Below N W0 Y5) := hY
              clear hY
              obtain ⟨⟨s0, s1, s2, s3, s4, s5⟩, sb, sc⟩ := HST5.out
              obtain ⟨g0, g1, g2, g3, g4, g5⟩ := HRD.out Y5 sb
              obtain ⟨v5, q5⟩ := s5.has hlt3
              have f5 := s5.free k
              clear s0 s1 s2 s3 s4 s5 sc
              go_wp2
              go_roundw
              case rel =>
                obtain ⟨⟨s0, s1, s2, s3, s4, s5⟩, sb, sc⟩ := HST5.out
                have hBB := HB.out
                exact ⟨k + 1, by omega, by go_num, s0.set_ne (by omega), s1.set_ne (by omega), s2.set_ne (by omega), s3.set_ne (by omega), s4.set_ne (by omega), s5.set hlt3 (by unfold fld5; rw [HDE.out]), sc.setCell (p := ⟨B5, k, none⟩) (show N ≤ B5 by omega) _⟩
              case measure => simp [intOf]; omega
            · have hke3 : k = K := by omega
              have hkx3 : decide ((k : Int) < (K : Int)) = false := by rw [decide_eq_false_iff_not]; omega
              have hkn3 : ¬ k < K := by omega
              have HKE3 : Hid (k = K) := hke3
              have HG : Hid (FilledTo wr N K k 3 (fld0 cds) ∧ FilledTo wr B1 K k 3 (fld1 cds) ∧ FilledTo wr B2 K k 4 (fld2 cds) ∧ FilledTo wr B3 K k 3 (fld3 cds) ∧ FilledTo wr B4 K k 3 (fld4 cds) ∧ FilledTo wr B5 K k 4 (fld5 cds) ∧ Below N W0 wr) := ⟨h0, h1, h2, h3, h4, h5, hbx⟩
              clear h0 h1 h2 h3 h4 h5 hke3
              as_aux_lemma =>
              obtain ⟨sz, hsz⟩ : ∃ sz, B * W = sz := ⟨_, rfl⟩
              have HSZ : Hid (B * W = sz) := hsz
              clear hsz
              have HLN : Hid (hs'.length = H) := HKL.out.trans HKE.out
              have HWS : Hid (∀ j (h : j < hs'.length), hs'[j].ws = hs[j]!.ws) := fun j h => (HBD2.out j h).1
              have HLE : Hid (hs'.length = hs.length) := HLN.out.trans HHL.out.symm
              have HC20 : Hid (Calls Try.prog 20 #[.int .i64 n, .int .i64 t, .int .i64 (W : Int), .int .i64 (B : Int), .slice (some ⟨fb, 0, none⟩) H H, .slice bo H H, .slice (some ⟨N, 0, none⟩) K K, .slice (some ⟨B1, 0, none⟩) K K, .slice (some ⟨B2, 0, none⟩) K K, .slice (some ⟨B3, 0, none⟩) K K, .slice (some ⟨B4, 0, none⟩) K K, .slice (some ⟨B5, 0, none⟩) K K] wr fun e w' => RetNN n t W B H K hs' cds wr e w') := by
                obtain ⟨g0, g1, g2, g3, g4, g5, gb⟩ := HG.out
                have e := HKE3.out
                rw [e] at g0 g1 g2 g3 g4 g5
                have f := HFF.out
                rw [HKE.out] at f
                exact new20 n t W B H K fb bo hs hs' N B1 B2 B3 B4 B5 cds W0 wr HLN.out hl HK.out hcl hBW hW1 HN.out gb f HROW.out HBD2.out g0 g1 g2 g3 g4 g5
              have HBX : Hid (Below N W0 wr) := HG.out.2.2.2.2.2.2
              go_wp2_with fail
              refine Calls.mono HC20.out ?_
              rintro e w1 ⟨nd, wsb, hb, kb, mb, cb, C0, rfl, hnd, hws, hkb, hmb, hcb, hci, hhn, hlow, hb1⟩
              have HB1w : Hid (Below wr.heap.size wr w1) := hb1
              have HC21 : Hid (Calls Try.prog 21 #[.pointer (some ⟨nd, 0, none⟩), .int .i64 step, .int .i64 (F : Int), .int .i64 (S : Int)] w1 fun e w' => e = .returned (.tuple #[]) ∧ Done wr.heap.size w1 w' nd wsb kb hb mb cb H W B K n t step F S (bodies hs) cds) := by
                have h := count21 wr.heap.size nd wsb kb hb mb cb H W B K n t step F S hs' cds w1 HNT.out hFS hSB hBW hW1 hW2 HLN.out hl HK.out hcl hSK hb1.size hlow hnd hws hkb hmb C0 hcb hci hhn (bounds_alike HLE.out HWS.out (P := fun ws => S ≤ ws.length ∧ ∀ l, F ≤ l → l < S → ws.getD l 0 < W) HBD.out)
                rw [bodies_alike HLE.out HWS.out] at h
                exact h
              clear hnd hws hkb hmb hcb hci hhn hlow hb1 HC20 HG HROW HBD2 HFF
              go_wp2_with fail
              refine Calls.mono HC21.out ?_
              rintro e w2 ⟨rfl, hD⟩
              obtain ⟨dnd, ⟨vo, vc, dws⟩, dcn, dms, ⟨C', cds', dcb, dci, dcl, dcs⟩, dbel⟩ := hD
              have HND : Hid (Blk w2 nd (ndArr n t cb K wsb) 99) := dnd
              have HWB : Hid (Blk w2 wsb (wsArr hb H W B kb mb (.slice vo 0 vc)) 94) := dws
              have HCN : Hid (Blk w2 kb (wordsOf sz fun _ => 0) 54) := by rw [HSZ.out] at dcn; exact dcn
              have HMS : Hid (Blk w2 mb (intsOf (B * 2) (mfun (S - F) W F (bodies hs))) 102) := dms
              have HDB : Hid (Below wr.heap.size w1 w2) := dbel
              have HDL : Hid (cds'.length = K) := dcl.trans HK.out
              have HWT : Hid (∀ j, j < K → cds'[j]! = wantCD cds step n t F S W (bodies hs) j) := fun j hj => want_of dcs (by rw [HK.out]; exact hj)
              have HC22 : Hid _ := nodeCastsK nd cb wsb K n t C' cds' HDL.out hcl w2 dnd dcb dci
              clear dnd dws dcn dms dcb dci dcl dcs dbel HC21
              go_wp2_with fail
              refine Calls.mono HC22.out ?_
              rintro e w3 ⟨P0, P1, P2, P3, P4, P5, rfl, hP, hb3⟩
              have HB3 : Hid (Below w2.heap.size w2 w3) := hb3
              have HP3 : Hid (FilledTo w3 P0 K K 3 (fld0 cds') ∧ FilledTo w3 P1 K K 3 (fld1 cds') ∧ FilledTo w3 P2 K K 4 (fld2 cds') ∧ FilledTo w3 P3 K K 3 (fld3 cds') ∧ FilledTo w3 P4 K K 3 (fld4 cds') ∧ FilledTo w3 P5 K K 4 (fld5 cds')) := hP
              have HC23 : Hid _ := nodeWsB nd cb K wsb hb H W B kb mb sz n t vo vc _ HSZ.out (Nat.le_trans (Nat.le_mul_of_pos_right B hW1) hBW) w3 (HND.out.below hb3 HND.out.lt) (HWB.out.below hb3 HWB.out.lt) (HMS.out.below hb3 HMS.out.lt)
              clear hP hb3 HC22
              go_wp2_with fail
              refine Calls.mono HC23.out ?_
              rintro e w4 ⟨Q0, Q1, rfl, hq0, hq1, hb4⟩
              have HQ0 : Hid (FilledTo w4 Q0 B B 3 (fun b => .int .i64 (mfun (S - F) W F (bodies hs) (b * 2) : Int))) := hq0
              have HQ1 : Hid (FilledTo w4 Q1 B B 3 (fun b => .int .i64 (mfun (S - F) W F (bodies hs) (b * 2 + 1) : Int))) := hq1
              have HP4 : Hid (FilledTo w4 P0 K K 3 (fld0 cds') ∧ FilledTo w4 P1 K K 3 (fld1 cds') ∧ FilledTo w4 P2 K K 4 (fld2 cds') ∧ FilledTo w4 P3 K K 3 (fld3 cds') ∧ FilledTo w4 P4 K K 3 (fld4 cds') ∧ FilledTo w4 P5 K K 4 (fld5 cds')) := by
                obtain ⟨g0, g1, g2, g3, g4, g5⟩ := HP3.out
                exact ⟨g0.below hb4, g1.below hb4, g2.below hb4, g3.below hb4, g4.below hb4, g5.below hb4⟩
              have HCN4 : Hid (Blk w4 kb (wordsOf sz fun _ => 0) 54) := by
                have h3 := HCN.out.below HB3.out HCN.out.lt
                exact h3.below hb4 h3.lt
              have hbw4 : Below fb w w4 := chain4 hbel HBX.out HN.out hfbN HB1w.out HDB.out HB3.out hb4
              clear hq0 hq1 hb4 HC23 HP3 HCN HMS HWB HND HB3 HDB HB1w HBX HLE HWS HLN hbel HKL HKE HKE3 HB hkx hkn hkx3 hkn3
              as_aux_lemma =>
              go_wp2_with fail
              obtain ⟨X, hX⟩ : ∃ X, w4.heap.size = X := ⟨_, rfl⟩
              have HX : Hid (w4.heap.size = X) := hX
              have hfbX : fb ≤ X := by have := hbw4.size; have := HFB.out; omega
              clear hX
              go_loopw [46] (fun i wx => ∃ j : Nat, j ≤ K ∧ i = .int .i64 j ∧ Below X w4 wx) (fun i _ => K - (intOf i).toNat)
              case atStart => exact ⟨0, Nat.zero_le _, rfl, Below.refl _ _⟩
              case round =>
                obtain ⟨j, hj, rfl, hbx⟩ := hrel
                by_cases hlt : j < K
                · have hkc : j < cds.length := by rw [HK.out]; exact hlt
                  have hbxw : Below fb w wr := hbw4.trans (hbx.mono hfbX)
                  have hbxw2 : Below w.heap.size w wr := by rw [HFB.out]; exact hbxw
                  obtain ⟨cbk, coff, hco, g0, g1, g2, g3, g4, g5⟩ := HC.out.below hbxw2 j hkc
                  subst hco
                  have HDJ : Hid (cds[j]! = cds[j]) := by unfold Hid; simp [hkc]
                  obtain ⟨d, hd⟩ : ∃ d, cds[j] = d := ⟨_, rfl⟩
                  rw [hd] at g0 g1 g2 g3 g4 g5 HDJ
                  clear hd hkc
                  obtain ⟨dl, dn, ds, dv, dc, dg⟩ := d
                  simp only at g0 g1 g2 g3 g4 g5
                  have HPD0 : ∀ Y, Below X w4 Y → Y.cell? ⟨P0, j, none⟩ = some (.int .i64 cds'[j]!.leader) ∧ Y.cell? ⟨P1, j, none⟩ = some (.int .i64 cds'[j]!.next) ∧ Y.cell? ⟨P2, j, none⟩ = some (.bool cds'[j]!.sends) ∧ Y.cell? ⟨P3, j, none⟩ = some (.int .i64 cds'[j]!.gv) ∧ Y.cell? ⟨P4, j, none⟩ = some (.int .i64 cds'[j]!.gc) ∧ Y.cell? ⟨P5, j, none⟩ = some (.bool cds'[j]!.graded) := by
                    intro Y hY
                    rw [← HX.out] at hY
                    obtain ⟨p0, p1, p2, p3, p4, p5⟩ := HP4.out
                    exact ⟨(p0.below hY).cell hlt, (p1.below hY).cell hlt, (p2.below hY).cell hlt, (p3.below hY).cell hlt, (p4.below hY).cell hlt, (p5.below hY).cell hlt⟩
                  have HWJ : Hid (cds'[j]! = wantCD cds step n t F S W (bodies hs) j) := HWT.out j hlt
                  have hel : cds'[j]!.leader = dl := by rw [HWJ.out, want_leader, HDJ.out]
                  rw [hel] at HPD0
                  obtain ⟨ec, he⟩ : ∃ ec, cds'[j]! = ec := ⟨_, rfl⟩
                  rw [he] at HPD0 HWJ
                  clear he hel
                  obtain ⟨el, en, es, ev, ec, eg⟩ := ec
                  simp only at HPD0
                  have HPD : Hid (∀ Y, Below X w4 Y → Y.cell? ⟨P0, j, none⟩ = some (.int .i64 dl) ∧ Y.cell? ⟨P1, j, none⟩ = some (.int .i64 en) ∧ Y.cell? ⟨P2, j, none⟩ = some (.bool es) ∧ Y.cell? ⟨P3, j, none⟩ = some (.int .i64 ev) ∧ Y.cell? ⟨P4, j, none⟩ = some (.int .i64 ec) ∧ Y.cell? ⟨P5, j, none⟩ = some (.bool eg)) := HPD0
                  clear HPD0
                  obtain ⟨M, hM⟩ : ∃ M, wr.heap.size = M := ⟨_, rfl⟩
                  have HM : Hid (wr.heap.size = M) := hM
                  have hXM : X ≤ M := by have := hbx.size; have := HX.out; omega
                  have hx1 : (j : Int) < (K : Int) := by omega
                  clear hbxw2
                  go_upto_region 68 with fail
                  refine gen_world (Pr := fun X' => Code.wp Try.prog _ _ _ X') (fun Y => (Y.cell? ⟨M, 0, none⟩ = some (.int .i64 dl) ∧ Y.cell? ⟨M, 1, none⟩ = some (.int .i64 dn) ∧ Y.cell? ⟨M, 2, none⟩ = some (.bool ds) ∧ Y.cell? ⟨M, 3, none⟩ = some (.int .i64 dv) ∧ Y.cell? ⟨M, 4, none⟩ = some (.int .i64 dc) ∧ Y.cell? ⟨M, 5, none⟩ = some (.bool dg)) ∧ Below X w4 Y) ?_ ?_
                  · have hB : Blk (wr.alloc (.cells #[.int .i64 dl, .int .i64 dn, .bool ds, .int .i64 dv, .int .i64 dc, .bool dg] 68)) M _ 68 := Blk.new' _ _ HM.out
                    exact ⟨⟨by rw [hB.cell]; rfl, by rw [hB.cell]; rfl, by rw [hB.cell]; rfl, by rw [hB.cell]; rfl, by rw [hB.cell]; rfl, by rw [hB.cell]; rfl⟩, hbx.alloc (by rw [HM.out]; exact hXM) _⟩
                  clear g0 g1 g2 g3 g4 g5 hM hbx hbxw
                  intro Y hY
                  obtain ⟨⟨c0, c1, c2, c3, c4, c5⟩, hYb⟩ := hY
                  go_quiet (fail)
                  go_upto_region 69 with fail
                  go_quiet (fail)
                  go_upto_region 70 with fail
                  refine gen_world (Pr := fun X' => Code.wp Try.prog _ _ _ X') (fun Z => Z.cell? ⟨M, 0, none⟩ = some (.int .i64 dl) ∧ Below X w4 Z) ⟨(((Still.refl Y).drewN _).drewN _).cell c0, below_drewN (below_drewN hYb _) _⟩ ?_
                  clear c0 c1 c2 c3 c4 c5 hYb
                  intro Z hZ
                  obtain ⟨z0, hZb⟩ := hZ
                  obtain ⟨p0, p1, p2, p3, p4, p5⟩ := HPD.out Z hZb
                  by_cases hF : F ≤ j
                  · have d1 : decide ((F : Int) ≤ (j : Int)) = true := by rw [decide_eq_true_iff]; omega
                    have d1n : decide (F ≤ j) = true := by rw [decide_eq_true_iff]; omega
                    by_cases hS : j < S
                    · have d2 : decide ((j : Int) < (S : Int)) = true := by rw [decide_eq_true_iff]; omega
                      have d2n : decide (j < S) = true := by rw [decide_eq_true_iff]; omega
                      obtain ⟨m, kk, hmk⟩ : ∃ m kk, mostOf W j (bodies hs) = (m, kk) := ⟨_, _, rfl⟩
                      have HE : Hid ((⟨el, en, es, ev, ec, eg⟩ : CD) = countedCD ⟨dl, dn, ds, dv, dc, dg⟩ step n t m kk) := by
                        unfold Hid; rw [HWJ.out]; unfold wantCD; rw [if_pos ⟨hF, hS⟩, HDJ.out, hmk]
                      have H24 : Hid (Calls Try.prog 24 #[.slice ho H hcap, .int .i64 (j : Int), .int .i64 (W : Int)] Z fun e w' => RetMC (m, kk) Z e w') := by
                        have hZw : Below w.heap.size w Z := by rw [HFB.out]; exact hbw4.trans (hZb.mono hfbX)
                        have h := most24 ho hcap hs j W (by have := HHL.out; omega) (by omega) hW1 (fun h hh => ⟨Nat.lt_of_lt_of_le hS (HBD.out h hh).1, HU.out h hh⟩) Z (HH.out.below hZw)
                        rw [hmk, HHL.out] at h
                        exact h
                      clear hmk
                      go_wp2_with fail
                      refine Calls.mono H24.out ?_
                      rintro e w' ⟨rfl, hww⟩
                      subst hww
                      clear H24
                      by_cases hs2 : step = 2
                      · subst hs2
                        obtain ⟨bb, hbb⟩ : ∃ bb, decide (n - t ≤ (kk : Int)) = bb := ⟨_, rfl⟩
                        have hE : (⟨el, en, es, ev, ec, eg⟩ : CD) = ⟨dl, (m : Int), bb, dv, dc, dg⟩ := by rw [HE.out]; unfold countedCD; rw [if_pos rfl, hbb]
                        obtain ⟨_, h1, h2, h3, h4, h5⟩ := CD.mk.inj hE
                        clear hE
                        subst h1 h2 h3 h4 h5
                        have wnt : IntKind.i64.wrap (n - t) = n - t := by have := HNT.out; unfold NT at this; exact wrap_id (by omega) (by omega)
                        as_aux_lemma =>
                        go_wp2_with fail
                        go_quiet (fail)
                        go_wp2
                        go_roundw
                        case rel => exact ⟨j + 1, by omega, by go_num, below_drewN hZb _⟩
                        case measure => simp [intOf]; omega
                      by_cases hs3 : step = 3
                      · subst hs3
                        obtain ⟨ga, gb, hgg⟩ : ∃ ga gb, gradeOf m kk n t = (ga, gb) := ⟨_, _, rfl⟩
                        have H25 : Hid (Calls Try.prog 25 #[.int .i64 (m : Int), .int .i64 (kk : Int), .int .i64 n, .int .i64 t] w' fun e w'' => e = .returned (.tuple #[.int .i64 ga, .int .i64 gb]) ∧ w'' = w') := by
                          refine Calls.mono (grade25 m kk n t HNT.out w') ?_
                          rintro e w'' ⟨h1, h2⟩
                          rw [hgg] at h1
                          exact ⟨h1, h2⟩
                        have hE : (⟨el, en, es, ev, ec, eg⟩ : CD) = ⟨dl, dn, ds, ga, gb, true⟩ := by rw [HE.out]; unfold countedCD; rw [if_neg (by decide), if_pos rfl, hgg]
                        obtain ⟨_, h1, h2, h3, h4, h5⟩ := CD.mk.inj hE
                        clear hE hgg
                        subst h1 h2 h3 h4 h5
                        as_aux_lemma =>
                        go_wp2_with fail
                        refine Calls.mono H25.out ?_
                        rintro e w'' ⟨rfl, hww⟩
                        subst hww
                        clear H25
                        go_wp2_with fail
                        go_quiet (fail)
                        go_wp2
                        go_roundw
                        case rel => exact ⟨j + 1, by omega, by go_num, below_drewN hZb _⟩
                        case measure => simp [intOf]; omega
                      have hE : (⟨el, en, es, ev, ec, eg⟩ : CD) = ⟨dl, dn, ds, dv, dc, dg⟩ := by rw [HE.out]; unfold countedCD; rw [if_neg hs2, if_neg hs3]
                      obtain ⟨_, h1, h2, h3, h4, h5⟩ := CD.mk.inj hE
                      clear hE
                      subst h1 h2 h3 h4 h5
                      have ds2 : decide (step = 2) = false := by rw [decide_eq_false_iff_not]; exact hs2
                      have ds3 : decide (step = 3) = false := by rw [decide_eq_false_iff_not]; exact hs3
                      as_aux_lemma =>
                      go_wp2_with fail
                      go_quiet (fail)
                      go_wp2
                      go_roundw
                      case rel => exact ⟨j + 1, by omega, by go_num, below_drewN hZb _⟩
                      case measure => simp [intOf]; omega
                    · have d2 : decide ((j : Int) < (S : Int)) = false := by rw [decide_eq_false_iff_not]; omega
                      have d2n : decide (j < S) = false := by rw [decide_eq_false_iff_not]; omega
                      have hE : (⟨el, en, es, ev, ec, eg⟩ : CD) = ⟨dl, dn, ds, dv, dc, dg⟩ := by rw [HWJ.out]; unfold wantCD; rw [if_neg (by omega), HDJ.out]
                      obtain ⟨_, h1, h2, h3, h4, h5⟩ := CD.mk.inj hE
                      clear hE
                      subst h1 h2 h3 h4 h5
                      as_aux_lemma =>
                      go_wp2_with fail
                      go_quiet (fail)
                      go_wp2
                      go_roundw
                      case rel => exact ⟨j + 1, by omega, by go_num, below_drewN hZb _⟩
                      case measure => simp [intOf]; omega
                  · have d1 : decide ((F : Int) ≤ (j : Int)) = false := by rw [decide_eq_false_iff_not]; omega
                    have d1n : decide (F ≤ j) = false := by rw [decide_eq_false_iff_not]; omega
                    have hE : (⟨el, en, es, ev, ec, eg⟩ : CD) = ⟨dl, dn, ds, dv, dc, dg⟩ := by rw [HWJ.out]; unfold wantCD; rw [if_neg (by omega), HDJ.out]
                    obtain ⟨_, h1, h2, h3, h4, h5⟩ := CD.mk.inj hE
                    clear hE
                    subst h1 h2 h3 h4 h5
                    as_aux_lemma =>
                    go_wp2_with fail
                    go_quiet (fail)
                    go_wp2
                    go_roundw
                    case rel => exact ⟨j + 1, by omega, by go_num, below_drewN hZb _⟩
                    case measure => simp [intOf]; omega
                · have hje : j = K := by omega
                  have hjx : decide ((j : Int) < (K : Int)) = false := by rw [decide_eq_false_iff_not]; omega
                  have hjn : ¬ j < K := by omega
                  have hbw5 : Below fb w wr := hbw4.trans (hbx.mono hfbX)
                  have hbx2 : Below w4.heap.size w4 wr := by rw [HX.out]; exact hbx
                  have HCN5 : Hid (Blk wr kb (wordsOf sz fun _ => 0) 54) := HCN4.out.below hbx2 HCN4.out.lt
                  have HQ05 : Hid (FilledTo wr Q0 B B 3 (fun b => .int .i64 (mfun (S - F) W F (bodies hs) (b * 2) : Int))) := HQ0.out.below hbx2
                  have HQ15 : Hid (FilledTo wr Q1 B B 3 (fun b => .int .i64 (mfun (S - F) W F (bodies hs) (b * 2 + 1) : Int))) := HQ1.out.below hbx2
                  have hszl : sz ≤ 65536 := by have := HSZ.out; omega
                  have hBl : B ≤ 65536 := Nat.le_trans (Nat.le_mul_of_pos_right B hW1) hBW
                  have wsz : IntKind.i64.wrap ((B : Int) * (W : Int)) = (sz : Int) := by
                    rw [← HSZ.out, show ((B : Int) * (W : Int)) = ((B * W : Nat) : Int) by simp]
                    exact wrap_nat _ (by omega)
                  clear hje hbx hbx2 HP4 HQ0 HQ1 HCN4 HWT HX hfbX hbw4 HSZ hBW
                  as_aux_lemma =>
                  go_wp2_with fail
                  clear wsz
                  go_loop [55] (fun i => ∃ q : Nat, q ≤ sz ∧ i = .int .i64 q) (fun i => sz - (intOf i).toNat)
                  case atStart => exact ⟨0, Nat.zero_le _, rfl⟩
                  case round =>
                    obtain ⟨q, hq, rfl⟩ := hrel
                    by_cases hqs : q < sz
                    · have c0 : wr.cell? ⟨kb, q, none⟩ = some (.int .u32 0) := by rw [HCN5.out.cell, wordsOf_get _ hqs]; rfl
                      have hx : (q : Int) < (sz : Int) := by omega
                      as_aux_lemma =>
                      go_wp2
                      go_round
                      case rel => exact ⟨q + 1, by omega, by go_num⟩
                      case measure => simp [intOf]; omega
                    · have hqx : decide ((q : Int) < (sz : Int)) = false := by rw [decide_eq_false_iff_not]; omega
                      have hqn : ¬ q < sz := hqs
                      as_aux_lemma =>
                      go_wp2_with fail
                      go_loop [56] (fun i => ∃ b : Nat, b ≤ B ∧ i = .int .i64 b) (fun i => B - (intOf i).toNat)
                      case atStart => exact ⟨0, Nat.zero_le _, rfl⟩
                      case round =>
                        obtain ⟨b, hb, rfl⟩ := hrel
                        by_cases hbB : b < B
                        · have q0 : wr.cell? ⟨Q0, b, none⟩ = some (.int .i64 (mfun (S - F) W F (bodies hs) (b * 2) : Int)) := HQ05.out.cell hbB
                          have q1 : wr.cell? ⟨Q1, b, none⟩ = some (.int .i64 (mfun (S - F) W F (bodies hs) (b * 2 + 1) : Int)) := HQ15.out.cell hbB
                          have hx : (b : Int) < (B : Int) := by omega
                          obtain ⟨sf, hsf⟩ : ∃ sf, S - F = sf := ⟨_, rfl⟩
                          have wSF : IntKind.i64.wrap ((S : Int) - (F : Int)) = (sf : Int) := by
                            rw [show ((S : Int) - (F : Int)) = ((S - F : Nat) : Int) by omega, hsf]
                            exact wrap_nat _ (by omega)
                          rw [hsf] at q0 q1
                          by_cases hbs : b < sf
                          · have d1 : decide ((b : Int) < (sf : Int)) = true := by rw [decide_eq_true_iff]; omega
                            have d1n : decide (b < sf) = true := by rw [decide_eq_true_iff]; omega
                            obtain ⟨m, kk, hmk⟩ : ∃ m kk, mostOf W (F + b) (bodies hs) = (m, kk) := ⟨_, _, rfl⟩
                            obtain ⟨e0, e1⟩ := mfun_in hbs hmk
                            rw [e0] at q0
                            rw [e1] at q1
                            simp only at q0 q1
                            obtain ⟨f2, hf2⟩ : ∃ f2, F + b = f2 := ⟨_, rfl⟩
                            have hf2l : f2 < S := by omega
                            have wfb : IntKind.i64.wrap ((F : Int) + (b : Int)) = (f2 : Int) := by
                              rw [show ((F : Int) + (b : Int)) = ((F + b : Nat) : Int) by simp, hf2]
                              exact wrap_nat _ (by omega)
                            have H24 : Hid (Calls Try.prog 24 #[.slice ho H hcap, .int .i64 (f2 : Int), .int .i64 (W : Int)] wr fun e w' => RetMC (m, kk) wr e w') := by
                              have hZw : Below w.heap.size w wr := by rw [HFB.out]; exact hbw5
                              have h := most24 ho hcap hs f2 W (by have := HHL.out; omega) (by omega) hW1 (fun h hh => ⟨Nat.lt_of_lt_of_le hf2l (HBD.out h hh).1, HU.out h hh⟩) wr (HH.out.below hZw)
                              rw [← hf2, hmk, HHL.out, hf2] at h
                              exact h
                            clear hmk e0 e1 hf2 hsf
                            as_aux_lemma =>
                            go_wp2_with fail
                            refine Calls.mono H24.out ?_
                            rintro e w' ⟨rfl, hww⟩
                            subst hww
                            go_wp2
                            go_round
                            case rel => exact ⟨b + 1, by omega, by go_num⟩
                            case measure => simp [intOf]; omega
                          · have d1 : decide ((b : Int) < (sf : Int)) = false := by rw [decide_eq_false_iff_not]; omega
                            have d1n : decide (b < sf) = false := by rw [decide_eq_false_iff_not]; omega
                            obtain ⟨e0, e1⟩ := mfun_out (width := W) (first := F) (bs := bodies hs) hbs
                            rw [e0] at q0
                            rw [e1] at q1
                            simp only [Int.ofNat_zero] at q0 q1
                            clear hsf e0 e1
                            as_aux_lemma =>
                            go_wp2
                            go_round
                            case rel => exact ⟨b + 1, by omega, by go_num⟩
                            case measure => simp [intOf]; omega
                        · have d1 : decide ((b : Int) < (B : Int)) = false := by rw [decide_eq_false_iff_not]; omega
                          have d1n : ¬ b < B := hbB
                          go_wp2
                          go_ret
                          exact ⟨rfl, hbw5⟩
end Go.Proofs.Qxb6619498a
