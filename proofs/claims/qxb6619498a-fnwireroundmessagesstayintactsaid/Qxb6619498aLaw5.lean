import Derived.Test.Qxb6619498aWcall
import Derived.Deep.RegionWith
namespace Go.Proofs.Qxb6619498a
open Go.RowKit

/-- The law's state behind k calls. -/
def Main (w : World) (P N k : Nat) (cu : Int) (mv ev : Value) (wr : World) : Prop :=
  ∃ (hist : List (List Pt)) (v : Value) (cs : List Nat) (ch u : Nat) (F : Nat → Nat) (ms : List (Nat × Nat)) (es : List Nat), Run w.heap.size wr P N cu v cs ch (u * N) F mv ms ev es hist ∧ ms.length = hist.length ∧ es.length = hist.length ∧
    hist.length = ch * 64 + u ∧ u ≤ 64 ∧ hist.length / 64 ≤ cs.length ∧ cs.length ≤ k ∧ hist.length ≤ k ∧ Below w.heap.size w wr

/-- The same ahead of a call of round rd: the rows are new where the round is. -/
def Main1 (w : World) (P N k s : Nat) (cu rd : Int) (v : Value) (cs : List Nat) (ch u : Nat) (F : Nat → Nat) (mv ev : Value) (wr : World) : Prop :=
  ∃ (hist : List (List Pt)) (ms : List (Nat × Nat)) (es : List Nat), Run w.heap.size wr P N cu v cs ch (u * N) F mv ms ev es hist ∧ ms.length = s ∧ es.length = s ∧ hist.length = s ∧
    ((rd = cu ∧ s = ch * 64 + u) ∨ (rd ≠ cu ∧ s = 0)) ∧ s / 64 ≤ cs.length ∧ s ≤ k

theorem Main1.reset {w : World} {P N k : Nat} {cu rd : Int} {v : Value} {cs : List Nat} {ch u : Nat} {F : Nat → Nat} {wr : World} (h : Wire w.heap.size wr P N cu v cs ch (u * N) F) (hne : rd ≠ cu) : Main1 w P N k 0 cu rd v cs ch u F (.slice none 0 0) (.slice none 0 0) wr :=
  ⟨[], [], [], ⟨h, World.ownsRow_nil _ _ _ _, World.ownsRow_nil _ _ _ _, fun q hq => by simp [Value.ownBlock] at hq, fun s hs => by simp at hs, fun s hs => by simp at hs, fun s qs hq => by simp at hq⟩, rfl, rfl, rfl, .inr ⟨hne, rfl⟩, by omega, Nat.zero_le _⟩

/-- Behind the call of message. -/
def Main2 (w : World) (P N s : Nat) (rd : Int) (qs : List Pt) (mv ev : Value) (k b : Nat) (wr : World) : Prop :=
  ∃ (hist : List (List Pt)) (v : Value) (cs : List Nat) (F : Nat → Nat) (ms : List (Nat × Nat)) (es : List Nat), Run w.heap.size wr P N rd v cs (s / 64) ((s % 64 + 1) * N) F mv ms ev es (hist ++ [qs]) ∧ ms.length = s ∧ es.length = s ∧ hist.length = s ∧
    cs[s / 64]? = some b ∧ cs.length ≤ k + 1 ∧ s ≤ k ∧ Below w.heap.size w wr

theorem Main2.of {w : World} {P N k s : Nat} {cu rd : Int} {v : Value} {cs : List Nat} {ch u : Nat} {F : Nat → Nat} {mv ev : Value} {wr w2 w3 : World} {qs : List Pt} {v3 : Value} {cs3 : List Nat} {b3 : Nat} (h : Main1 w P N k s cu rd v cs ch u F mv ev wr) (hb : Below w.heap.size w wr) (hb2 : Below wr.heap.size wr w2)
    (hk : cs.length ≤ k) (hc3 : cs3[s / 64]? = some b3) (hW : Wire w.heap.size w3 P N rd v3 cs3 (s / 64) ((s % 64 + 1) * N) (lay N s qs F)) (hcs : cs3 = cs ∨ (s / 64 = cs.length ∧ ∃ M, w2.heap.size ≤ M ∧ cs3 = cs ++ [M])) (hP : Pass cs w2 w3) (hb3 : Below w.heap.size w2 w3) :
    Main2 w P N s rd qs mv ev k b3 w3 := by
  obtain ⟨hist, ms, es, hrun, h1, h2, h3, _, _, h5⟩ := h
  refine ⟨hist, v3, cs3, _, ms, es, (hrun.below hb2).msg hW h3 hcs hP, h1, h2, h3, hc3, ?_, h5, (hb.trans (hb2.mono hb.size)).trans hb3⟩
  rcases hcs with rfl | ⟨_, M, _, rfl⟩
  · omega
  · simp; omega

set_option maxHeartbeats 8000000 in
set_option maxRecDepth 100000 in
theorem law5 (n : Int) (ao : Option Addr) (cap : Nat) (cl : List CallD) (w : World) (hs : CallsAt w ao cl) :
    Calls Try.prog 5 #[.int .i64 n, .slice ao cl.length cap] w fun e w' => e = .returned (.bool true) ∧ Below w.heap.size w w' := by
  have HS : Hid (CallsAt w ao cl) := hs
  clear hs
  go_enter Try.func5, Try.ntmps5
  go_wp2_with fail
  refine (bytes17 n ao cap cl w HS.out).mono ?_
  rintro e w' ⟨⟨b, rfl⟩, hww⟩; subst w'
  cases b
  · go_wp2_with fail
    go_ret
    exact ⟨rfl, Below.refl _ _⟩
  by_cases hbig : 256 < cl.length
  · go_wp2_with fail
    go_ret
    exact ⟨rfl, Below.refl _ _⟩
  have hbd : decide ((256 : Int) < (cl.length : Int)) = false := by rw [decide_eq_false_iff_not]; omega
  have hl : cl.length ≤ 256 := by omega
  clear hbig
  go_wp2_with fail
  go_loop [5, 6] (fun z i => ∃ (k : Nat) (y : Int), k ≤ cl.length ∧ i = .int .i64 k ∧ z = .int .i64 y ∧ ∀ c ∈ cl.take k, c.ps.length ≤ 65536) (fun _ i => cl.length - (intOf i).toNat)
  case atStart => exact ⟨0, _, Nat.zero_le _, rfl, rfl, fun c hc => by simp at hc⟩
  case round =>
    obtain ⟨k, y, hk, rfl, rfl, hin⟩ := hrel
    have HIN : Hid (∀ c ∈ cl.take k, c.ps.length ≤ 65536) := hin
    clear hin
    by_cases hlt : k < cl.length
    · obtain ⟨b, off, rfl, _, hc2, _⟩ := HS.out k hlt
      have hx1 : (k : Int) < (cl.length : Int) := by omega
      have HST : Hid (cl[k].ps.length ≤ 65536 → ∀ c ∈ cl.take (k + 1), c.ps.length ≤ 65536) := by
        intro h c hc
        rw [take_snoc _ _ hlt] at hc
        rcases List.mem_append.1 hc with q | q
        · exact HIN.out c q
        · simp at q; subst q; exact h
      generalize cl[k] = c at *
      obtain ⟨rd, pao, pcap, ps⟩ := c
      simp only at hc2 HST
      by_cases h1 : (65536 : Int) < (ps.length : Int)
      · have hd1 : decide ((65536 : Int) < (ps.length : Int)) = true := by rw [decide_eq_true_iff]; exact h1
        go_wp2
        go_ret
        exact ⟨rfl, Below.refl _ _⟩
      have hd1 : decide ((65536 : Int) < (ps.length : Int)) = false := by rw [decide_eq_false_iff_not]; exact h1
      obtain ⟨a1, ha1⟩ : ∃ a1, IntKind.i64.wrap (16 * (ps.length : Int)) = a1 := ⟨_, rfl⟩
      obtain ⟨a2, ha2⟩ : ∃ a2, IntKind.i64.wrap (32 + a1) = a2 := ⟨_, rfl⟩
      obtain ⟨y2, hy2⟩ : ∃ y2, IntKind.i64.wrap (y + a2) = y2 := ⟨_, rfl⟩
      by_cases h2 : (1048576 : Int) < y2
      · have hd2 : decide ((1048576 : Int) < y2) = true := by rw [decide_eq_true_iff]; exact h2
        go_wp2
        go_ret
        exact ⟨rfl, Below.refl _ _⟩
      have hd2 : decide ((1048576 : Int) < y2) = false := by rw [decide_eq_false_iff_not]; exact h2
      go_wp2
      go_round
      case rel => exact ⟨k + 1, _, by omega, by go_num, rfl, HST.out (by omega)⟩
      case measure => simp [intOf]; omega
    have hke : k = cl.length := by omega
    have HPL : Hid (∀ c ∈ cl, c.ps.length ≤ 65536) := by have := HIN.out; rw [hke, List.take_of_length_le (Nat.le_refl _)] at this; exact this
    clear HIN hke
    by_cases hn1 : n < 1
    · have hnd : decide (n < 1) = true := by rw [decide_eq_true_iff]; exact hn1
      go_wp2
      go_ret
      exact ⟨rfl, Below.refl _ _⟩
    have hnd : decide (n < 1) = false := by rw [decide_eq_false_iff_not]; exact hn1
    by_cases hn2 : 1024 < n
    · have hnd2 : decide (1024 < n) = true := by rw [decide_eq_true_iff]; exact hn2
      go_wp2
      go_ret
      exact ⟨rfl, Below.refl _ _⟩
    have hnd2 : decide (1024 < n) = false := by rw [decide_eq_false_iff_not]; exact hn2
    obtain ⟨N, rfl⟩ : ∃ N : Nat, n = (N : Int) := ⟨n.toNat, by omega⟩
    have hN1 : 1 ≤ N := by omega
    have hN2 : N ≤ 1024 := by omega
    clear hn1 hn2
    go_wp2_with fail
    go_loop [7] (fun i => ∃ k : Nat, k ≤ cl.length ∧ i = .int .i64 k ∧ ∀ c ∈ cl.take k, RawIn N c.ps) (fun i => cl.length - (intOf i).toNat)
    case atStart => exact ⟨0, Nat.zero_le _, rfl, fun c hc => by simp at hc⟩
    case round =>
      obtain ⟨k, hk, rfl, hin⟩ := hrel
      have HIN : Hid (∀ c ∈ cl.take k, RawIn N c.ps) := hin
      clear hin
      by_cases hlt : k < cl.length
      · obtain ⟨b, off, rfl, _, hc2, hraw⟩ := HS.out k hlt
        have hx1 : (k : Int) < (cl.length : Int) := by omega
        have HST : Hid (RawIn N cl[k].ps → ∀ c ∈ cl.take (k + 1), RawIn N c.ps) := by
          intro h c hc
          rw [take_snoc _ _ hlt] at hc
          rcases List.mem_append.1 hc with q | q
          · exact HIN.out c q
          · simp at q; subst q; exact h
        have hpl := HPL.out _ (List.getElem_mem hlt)
        generalize cl[k] = c at *
        obtain ⟨rd, pao, pcap, ps⟩ := c
        simp only at hc2 HST hpl hraw
        have HRAW : Hid (RawAt w pao ps) := hraw
        clear hraw
        go_wp2_with fail
        go_loop [9] (fun i => ∃ j : Nat, j ≤ ps.length ∧ i = .int .i64 j ∧ RawIn N (ps.take j)) (fun i => ps.length - (intOf i).toNat)
        case atStart => exact ⟨0, Nat.zero_le _, rfl, fun c hc => by simp at hc⟩
        case round =>
          obtain ⟨j, hj, rfl, hin⟩ := hrel
          have HIN2 : Hid (RawIn N (ps.take j)) := hin
          clear hin
          by_cases hjl : j < ps.length
          · obtain ⟨pb, po, rfl, hp1, hp2⟩ := HRAW.out j hjl
            have hy1 : (j : Int) < (ps.length : Int) := by omega
            have HST2 : Hid (0 ≤ ps[j].1 → ps[j].1 < (N : Int) → 1 ≤ ps[j].2 → ps[j].2 ≤ 4294967294 → RawIn N (ps.take (j + 1))) := by
              intro g1 g2 g3 g4 p hp
              rw [take_snoc _ _ hjl] at hp
              rcases List.mem_append.1 hp with q | q
              · exact HIN2.out p q
              · simp at q; subst q; exact ⟨g1, g2, g3, g4⟩
            generalize ps[j] = p at *
            obtain ⟨pl, pv⟩ := p
            simp only at hp1 hp2 HST2
            by_cases g1 : pl < 0
            · have d1 : decide (pl < 0) = true := by rw [decide_eq_true_iff]; exact g1
              go_wp2
              go_ret
              exact ⟨rfl, Below.refl _ _⟩
            have d1 : decide (pl < 0) = false := by rw [decide_eq_false_iff_not]; exact g1
            by_cases g2 : (N : Int) ≤ pl
            · have d2 : decide ((N : Int) ≤ pl) = true := by rw [decide_eq_true_iff]; exact g2
              go_wp2
              go_ret
              exact ⟨rfl, Below.refl _ _⟩
            have d2 : decide ((N : Int) ≤ pl) = false := by rw [decide_eq_false_iff_not]; exact g2
            by_cases g3 : pv < 1
            · have d3 : decide (pv < 1) = true := by rw [decide_eq_true_iff]; exact g3
              go_wp2
              go_ret
              exact ⟨rfl, Below.refl _ _⟩
            have d3 : decide (pv < 1) = false := by rw [decide_eq_false_iff_not]; exact g3
            by_cases g4 : 4294967294 < pv
            · have d4 : decide (4294967294 < pv) = true := by rw [decide_eq_true_iff]; exact g4
              go_wp2
              go_ret
              exact ⟨rfl, Below.refl _ _⟩
            have d4 : decide (4294967294 < pv) = false := by rw [decide_eq_false_iff_not]; exact g4
            go_wp2
            go_round
            case rel => exact ⟨j + 1, by omega, by go_num, HST2.out (by omega) (by omega) (by omega) (by omega)⟩
            case measure => simp [intOf]; omega
          · have hje : j = ps.length := by omega
            have HRI : Hid (RawIn N ps) := by have := HIN2.out; rw [hje, List.take_of_length_le (Nat.le_refl _)] at this; exact this
            clear HIN2
            go_wp2
            go_round
            case rel => exact ⟨k + 1, by omega, by go_num, HST.out HRI.out⟩
            case measure => simp [intOf]; omega
      have hke : k = cl.length := by omega
      have HRI : Hid (∀ c ∈ cl, RawIn N c.ps) := by have := HIN.out; rw [hke, List.take_of_length_le (Nat.le_refl _)] at this; exact this
      clear HIN hke
      go_wp2_with fail
      refine (newWire0 N w).mono ?_
      rintro e w1 ⟨rfl, hW1, hb1⟩
      have HMAIN : Hid (Main w w.heap.size N 0 0 (.slice none 0 0) (.slice none 0 0) w1) :=
        ⟨[], _, [], 0, 0, _, [], [], ⟨hW1, World.ownsRow_nil _ _ _ _, World.ownsRow_nil _ _ _ _, fun q hq => by simp [Value.ownBlock] at hq, fun s hs => by simp at hs, fun s hs => by simp at hs, fun s qs hq => by simp at hq⟩, rfl, rfl, rfl, by omega, by simp, by simp, by simp, hb1⟩
      clear hW1 hb1
      go_wp2_with fail
      go_loopw [11, 12, 13, 14] (fun mv ev cur i wr => ∃ (k : Nat) (cu : Int), k ≤ cl.length ∧ i = .int .i64 k ∧ cur = .int .i64 cu ∧ Main w w.heap.size N k cu mv ev wr) (fun _ _ _ i _ => cl.length - (intOf i).toNat)
      case atStart => exact ⟨0, 0, Nat.zero_le _, rfl, rfl, HMAIN.out⟩
      case round =>
        obtain ⟨k, cu, hk, rfl, rfl, hmain⟩ := hrel
        by_cases hlt : k < cl.length
        · obtain ⟨hist, v, cs, ch, u, F, ms, es, hrun, hml, hel, hh, hu, hsl, hck, hhk, hbel⟩ := hmain
          obtain ⟨b, off, hao, hc1, hc2, hraw⟩ := HS.out.below hbel k hlt
          subst hao
          have hx1 : (k : Int) < (cl.length : Int) := by omega
          have hri := HRI.out _ (List.getElem_mem hlt)
          have hpl := HPL.out _ (List.getElem_mem hlt)
          have HCK : Hid (∀ wx, Below w.heap.size w wx → wx.cell? ⟨b, off + k * 2, none⟩ = some (.int .i64 cl[k].rd) ∧ wx.cell? ⟨b, off + k * 2 + 1, none⟩ = some (.slice cl[k].ao cl[k].ps.length cl[k].cap) ∧ RawAt wx cl[k].ao cl[k].ps) := by
            intro wx hb
            obtain ⟨b', off', h1, h2, h3, h4⟩ := HS.out.below hb k hlt
            cases h1
            exact ⟨h2, h3, h4⟩
          generalize cl[k] = c at *
          obtain ⟨rd, pao, pcap, ps⟩ := c
          simp only at hc1 hc2 hraw hri hpl HCK
          have HRN : Hid (RawIn N ps) := hri
          have HRUN : Hid (Run w.heap.size wr w.heap.size N cu v cs ch (u * N) F u11 ms u12 es hist) := hrun
          have HRAW : Hid (RawAt wr pao ps) := hraw
          have HHH : Hid (hist.length = ch * 64 + u) := hh
          have HML : Hid (ms.length = hist.length) := hml
          have HEL : Hid (es.length = hist.length) := hel
          clear hrun hraw hri hh hml hel
          go_upto_if 115 with fail
          go_cut [11, 12, 13] from 103 to 163 (fun a b c wx => wr = wx ∧ c = .int .i64 rd ∧ ∃ s, Main1 w w.heap.size N k s cu rd v cs ch u F a b wr)
          case first =>
            by_cases he : rd = cu
            · have hbb : (rd != cu) = false := by simp [he]
              go_wp2_with fail
              go_meet
              exact ⟨rfl, by rw [he], hist.length, hist, ms, es, HRUN.out, HML.out, HEL.out, rfl, .inl ⟨he, HHH.out⟩, hsl, hhk⟩
            · have hbb : (rd != cu) = true := by simp [he]
              go_wp2_with fail
              go_meet
              exact ⟨rfl, rfl, 0, Main1.reset HRUN.out.wire he⟩
          case rest =>
          obtain ⟨rfl, rfl, s, hm1⟩ := hcut
          have HM1 : Hid (Main1 w w.heap.size N k s cu rd v cs ch u F u11 u12 wr) := hm1
          have H11 : Hid (∀ W, Below wr.heap.size wr W → Calls Try.prog 11 #[.slice pao ps.length pcap] W fun e w' => RetAdv (natp ps) W e w') := by
            intro W hW
            have := advParts pao pcap (natp ps) (by rw [natp_length]; omega) W ((HRAW.out.below hW).ps HRN.out)
            rw [natp_length] at this; exact this
          have H13 : Hid (∀ w2 ao2 cap2, Below wr.heap.size wr w2 → PartsB w2 ao2 (natp ps) → Calls Try.prog 13 #[.pointer (some ⟨w.heap.size, 0, none⟩), .int .i64 rd, .slice ao2 (natp ps).length cap2] w2 fun e w' => RetM w.heap.size w.heap.size N rd cs s (natp ps) F w2 e w') := by
            intro w2 ao2 cap2 hb2 hp2
            obtain ⟨hist', ms', es', hrun', _, _, _, h4, h5, _⟩ := HM1.out
            exact zzmessage_of _ _ _ w2 (message_of w.heap.size w.heap.size N hN1 hN2 cu rd v cs ch u s F w2 (hrun'.wire.below hb2) hu (by have := hbel.size; have := hb2.size; omega) (by omega) h4 h5 ao2 cap2 (natp ps) HRN.out.pts (by rw [natp_length]; omega) hp2)
          clear hm1 HRUN HML HEL HHH hsl hhk
          go_upto_region 38 with fail
          go_cut [15] from 103 to 163 (fun s15 wx => ∃ b, s15 = .slice (some ⟨b, s % 64 * N, none⟩) N N ∧ Main2 w w.heap.size N s rd (natp ps) u11 u12 k b wx)
          case first =>
            go_region_with (first | (go_at_call 11; refine Calls.mono (H11.out _ (Below.refl _ _).drew) ?_; rintro e w2 ⟨ao2, cap2, rfl, hpb, hb2⟩; have hb2' : Below wr.heap.size wr w2 := (Below.refl _ _).drew.trans hb2; have hc1' := (HCK.out w2 (hbel.trans (hb2'.mono hbel.size))).1) | (go_at_call 13; refine Calls.mono (H13.out _ _ _ hb2' hpb) ?_; rintro e w3 ⟨v3, cs3, b3, rfl, hc3, hW3, hcs3, hP3, hb3⟩; have HM2 : Hid (Main2 w w.heap.size N s rd (natp ps) u11 u12 k b3 w3) := Main2.of HM1.out hbel hb2' hck hc3 hW3 hcs3 hP3 hb3; clear hc3 hW3 hcs3 hP3 hb3))
            all_goals
              go_wp2_with fail
              go_meet
              exact ⟨_, rfl, HM2.out⟩
          case rest =>
          obtain ⟨bb, rfl, hm2⟩ := hcut
          obtain ⟨hist2, v2, cs2, F2, ms2, es2, hrun2, hm2l, he2l, hh2l, hcb, hc2l, hsk, hb2⟩ := hm2
          have HRUN2 : Hid (Run w.heap.size wc w.heap.size N rd v2 cs2 (s / 64) ((s % 64 + 1) * N) F2 u11 ms2 u12 es2 (hist2 ++ [natp ps])) := hrun2
          have HHC : Hid (cs2[s / 64]? = some bb) := hcb
          have HMS : Hid (ms2.length = s) := hm2l
          have HES : Hid (es2.length = s) := he2l
          have HHL : Hid (hist2.length = s) := hh2l
          have hown2 := hrun2.made
          have hwl2 := hrun2.wire.wire.lt
          have hms2 : ms2.length ≤ 2000000 := by omega
          clear hrun2 hcb hm2l he2l hh2l
          go_wp2_with (at_builtin; refine wpList_append_w rfl _ _ rfl w.heap.size _ ms2.length (ms2.map (sl N)) rfl (hown2.alloc _) wc.heap.size (.slice (some ⟨bb, s % 64 * N, none⟩) N N) rfl (Blk.new _ _ _) rfl hms2 (by simp; omega) ?_)
          intro g4 cap4 w4 hown4 hgr4 hg4
          have HRUN4 : Hid _ := HRUN2.out.addm (p := (bb, s % 64 * N)) hgr4 hown4 (by simp; exact hg4) (by rw [HMS.out]; exact ⟨HHC.out, rfl⟩)
          have hb4 : Below w.heap.size w w4 := Below.grown (hb2.alloc (by omega) _) hgr4 (by simp; omega) (fun q hq => (hown2.lt q hq).1)
          clear hown4 hgr4 hg4 hown2
          obtain ⟨hk1, hk2, hk3⟩ := HCK.out w4 hb4
          have H15 : Hid (Calls Try.prog 15 #[.int .i64 (N : Int), .slice pao ps.length pcap] w4 fun e w' => RetOne N (natp ps) w4 e w') := by
            have := singles N (by omega) pao pcap (natp ps) HRN.out.pts (by rw [natp_length]; omega) w4 (hk3.ps HRN.out)
            rw [natp_length] at this; exact this
          clear hk3
          go_wp2_with fail
          refine Calls.mono H15.out ?_
          rintro e w5 ⟨rfl, hbk5, hb5⟩
          have HRUN5 : Hid _ := HRUN4.out.below hb5
          have HBK5 : Hid (Blk w5 w4.heap.size (wordsOf N fun l => one l (natp ps)) 54) := hbk5
          have hb05 : Below w.heap.size w w5 := hb4.trans (hb5.mono hb4.size)
          have HNC : Hid (w4.heap.size ∉ cs2) := by
            intro hm
            obtain ⟨q, hq, he⟩ := List.mem_iff_getElem.1 hm
            have := (HRUN4.out.wire.chk q hq).lt
            rw [he] at this; omega
          have hown5 := HRUN5.out.exps
          have hes2 : es2.length ≤ 2000000 := by have := HES.out; omega
          have hs5 := hb05.size
          clear hbk5 hb5
          go_wp2_with (at_builtin; refine wpList_append_w rfl _ _ rfl w.heap.size _ es2.length (es2.map fun b => sl N (b, 0)) rfl (hown5.alloc _) w5.heap.size (.slice (some ⟨w4.heap.size, 0, none⟩) N N) rfl (Blk.new _ _ _) rfl hes2 (by simp; omega) ?_)
          intro g6 cap6 w6 hown6 hgr6 hg6
          have HRUN6 : Hid _ := HRUN5.out.adde (b := w4.heap.size) (qs := natp ps) hgr6 hown6 (by simp; exact hg6) HBK5.out HNC.out (by rw [HES.out, ← HHL.out]; simp)
          have hb6 : Below w.heap.size w w6 := Below.grown (hb05.alloc (by omega) _) hgr6 (by simp; omega) (fun q hq => (hown5.lt q hq).1)
          clear hown6 hgr6 hg6 hown5
          go_wp2_with fail
          have hms := HMS.out
          have hes := HES.out
          go_loopw [16] (fun i wx => ∃ j : Nat, j ≤ s + 1 ∧ i = .int .i64 j ∧ Still w6 wx) (fun i _ => s + 1 - (intOf i).toNat)
          case atStart => exact ⟨0, Nat.zero_le _, rfl, Still.refl _⟩
          case round =>
            obtain ⟨j, hj, rfl, hst⟩ := hrel
            by_cases hjl : j < s + 1
            · obtain ⟨mb, mc, eb, ec, b1, o1, b2, f, e1, e2, q1, q2, q3, q4⟩ := HRUN6.out.read (by simp [hms, hes]) (j := j) (by simp [hms]; omega)
              simp at e1 e2
              obtain ⟨rfl, rfl⟩ := e1
              obtain ⟨rfl, rfl⟩ := e2
              have hc1 := hst.cell q1
              have hc2 := hst.cell q2
              have H16 : Hid (∀ nq, Calls Try.prog 16 #[.slice (some ⟨b1, o1, none⟩) N N, .slice (some ⟨b2, 0, none⟩) N N] (wr.drewN nq) fun e w' => RetB true (wr.drewN nq) e w') := fun nq => eqWords b1 o1 N b2 0 N N f (by omega) _ (q3.still (hst.drewN nq)) (q4.still (hst.drewN nq))
              have hy1 : (j : Int) < (s : Int) + 1 := by omega
              have hy2 : (j : Int) < ((s + 1 : Nat) : Int) := by omega
              clear q1 q2 q3 q4
              go_wp2
              go_quiet ((go_at_call 16; exact Calls.quiet_of (H16.out _)))
              go_wp2
              go_roundw
              case rel => exact ⟨j + 1, by omega, by go_num, hst.drewN _⟩
              case measure => simp [intOf]; omega
            · have hje : j = s + 1 := by omega
              have HFIN : Hid (Main w w.heap.size N (k + 1) rd (.slice (some ⟨g4, 0, none⟩) (ms2.length + 1) cap4) (.slice (some ⟨g6, 0, none⟩) (es2.length + 1) cap6) wr) := by
                have hcl := (List.getElem?_eq_some_iff.1 HHC.out).1
                refine ⟨_, _, cs2, s / 64, s % 64 + 1, _, _, _, HRUN6.out.below (hst.below _), ?_, ?_, ?_, ?_, ?_, ?_, ?_, ?_⟩
                · simp [hms, HHL.out]
                · simp [hes, HHL.out]
                · simp [HHL.out]; omega
                · omega
                · simp [HHL.out]; omega
                · omega
                · simp [HHL.out]; omega
                · obtain ⟨q, rfl⟩ := hst; exact below_drewN hb6 _
              subst hje
              go_wp2
              go_roundw
              case rel => exact ⟨k + 1, rd, by omega, by go_num, rfl, HFIN.out⟩
              case measure => simp [intOf]; omega
        · have hke : k = cl.length := by omega
          have hbel : Below w.heap.size w wr := by obtain ⟨_, _, _, _, _, _, _, _, _, _, _, _, _, _, _, _, hb⟩ := hmain; exact hb
          clear hmain
          go_wp2
          go_ret
          exact ⟨rfl, hbel⟩
end Go.Proofs.Qxb6619498a
