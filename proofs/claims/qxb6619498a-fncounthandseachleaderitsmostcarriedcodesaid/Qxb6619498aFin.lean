import Derived.Test.Qxb6619498aNew
import Derived.Test.Qxb6619498aCnz
import Derived.Test.Qxb6619498aCas
namespace Go.Proofs.Qxb6619498a
open Go.RowKit

theorem nodeCastsK (nd cb wsb K : Nat) (n t : Int) (C : Array Value) (cds : List CD) (hK : cds.length = K) (hl : K ≤ 4096) (w : World) (hnd : Blk w nd (ndArr n t cb K wsb) 99) (hcb : Blk w cb C 90) (hC : CastsIn C cds) :
    Calls Try.prog 22 #[.pointer (some ⟨nd, 0, none⟩)] w fun e w' => ∃ P0 P1 P2 P3 P4 P5, e = .returned (.tuple #[.slice (some ⟨P0, 0, none⟩) K K, .slice (some ⟨P1, 0, none⟩) K K, .slice (some ⟨P2, 0, none⟩) K K, .slice (some ⟨P3, 0, none⟩) K K, .slice (some ⟨P4, 0, none⟩) K K, .slice (some ⟨P5, 0, none⟩) K K]) ∧
      (FilledTo w' P0 K K 3 (fld0 cds) ∧ FilledTo w' P1 K K 3 (fld1 cds) ∧ FilledTo w' P2 K K 4 (fld2 cds) ∧ FilledTo w' P3 K K 3 (fld3 cds) ∧ FilledTo w' P4 K K 3 (fld4 cds) ∧ FilledTo w' P5 K K 4 (fld5 cds)) ∧ Below w.heap.size w w' := by
  subst hK
  refine Calls.mono (nodeCasts nd cb wsb n t C cds hl w hnd hcb hC) ?_
  rintro e w' ⟨N, _, he, h0, h1, h2, h3, h4, h5, hb⟩
  exact ⟨N, N + 1, N + 2, N + 3, N + 4, N + 5, he, ⟨h0, h1, h2, h3, h4, h5⟩, hb⟩

theorem nodeWsB (nd cb K wsb hb H width block kb mb sz : Nat) (n t : Int) (vo : Option Addr) (vc : Nat) (f : Nat → Nat) (hsz : block * width = sz) (hl : block ≤ 65536) (w : World) (hnd : Blk w nd (ndArr n t cb K wsb) 99) (hws : Blk w wsb (wsArr hb H width block kb mb (.slice vo 0 vc)) 94) (hmb : Blk w mb (intsOf (block * 2) f) 102) :
    Calls Try.prog 23 #[.pointer (some ⟨nd, 0, none⟩)] w fun e w' => ∃ Q0 Q1, e = .returned (.tuple #[.slice (some ⟨kb, 0, none⟩) sz sz, .int .i64 0, .slice (some ⟨Q0, 0, none⟩) block block, .slice (some ⟨Q1, 0, none⟩) block block]) ∧
      FilledTo w' Q0 block block 3 (fun b => .int .i64 (f (b * 2) : Int)) ∧ FilledTo w' Q1 block block 3 (fun b => .int .i64 (f (b * 2 + 1) : Int)) ∧ Below w.heap.size w w' := by
  subst hsz
  refine Calls.mono (nodeWs nd cb K wsb hb H width block kb mb n t vo vc f hl w hnd hws hmb) ?_
  rintro e w' ⟨N, _, he, h0, h1, hb⟩
  exact ⟨N, N + 1, he, h0, h1, hb⟩

theorem bodies_alike {hs hs' : List HM} (hl : hs'.length = hs.length) (h : ∀ j (_ : j < hs'.length), hs'[j].ws = hs[j]!.ws) : bodies hs' = bodies hs := by
  unfold bodies
  apply List.ext_getElem
  · simp [hl]
  · intro j h1 h2
    have hj : j < hs'.length := by simpa using h1
    have hj2 : j < hs.length := by omega
    rw [List.getElem_map, List.getElem_map, h j hj]
    simp [hj2]
theorem bounds_alike {hs hs' : List HM} (hl : hs'.length = hs.length) (h : ∀ j (_ : j < hs'.length), hs'[j].ws = hs[j]!.ws) {P : List Nat → Prop} (hp : ∀ c ∈ hs, P c.ws) : ∀ c ∈ hs', P c.ws := by
  intro c hc
  obtain ⟨j, hj, rfl⟩ := List.getElem_of_mem hc
  have hj2 : j < hs.length := by omega
  rw [h j hj]
  have e : hs[j]! = hs[j] := by simp [hj2]
  rw [e]
  exact hp _ (List.getElem_mem hj2)

theorem count21 (L nd wsb kb hb mb cb H width block K : Nat) (n t step : Int) (first stop : Nat) (hs : List HM) (cds : List CD) (w : World) (hnt : NT n t) (hfs : first ≤ stop) (hsb : stop - first ≤ block) (hbw : block * width ≤ 65536) (hw1 : 1 ≤ width) (hww : width ≤ 65536) (hH : hs.length = H) (hH2 : H ≤ 4096)
    (hK : cds.length = K) (hK2 : K ≤ 4096) (hsk : stop ≤ K) (hL : L ≤ w.heap.size) (hlow : L ≤ wsb ∧ L ≤ kb ∧ L ≤ mb ∧ L ≤ cb)
    (hnd : Blk w nd (ndArr n t cb K wsb) 99) (hws : Blk w wsb (wsArr hb H width block kb mb (.slice none 0 0)) 94) (hkb : Blk w kb (wordsOf (block * width) fun _ => 0) 54) (hmb : Blk w mb (intsOf (block * 2) fun _ => 0) 102)
    (C0 : Array Value) (hcb : Blk w cb C0 90) (hC0 : CastsIn C0 cds) (hhn : HeardN w hb kb hs) (hbody : ∀ h ∈ hs, stop ≤ h.ws.length ∧ ∀ l, first ≤ l → l < stop → h.ws.getD l 0 < width) :
    Calls Try.prog 21 #[.pointer (some ⟨nd, 0, none⟩), .int .i64 step, .int .i64 (first : Int), .int .i64 (stop : Int)] w fun e w' => e = .returned (.tuple #[]) ∧ Done L w w' nd wsb kb hb mb cb H width block K n t step first stop (bodies hs) cds := by
  rcases Nat.lt_or_ge first stop with h | h
  · exact zzcount _ _ _ _ w (count28 L nd wsb kb hb mb cb H width block K n t step first stop hs cds w hnt h hsb hbw hw1 hww hH hH2 hK hK2 hsk hL hlow hnd hws hkb hmb C0 hcb hC0 hhn hbody)
  · have e : first = stop := by omega
    subst e
    exact zzcount _ _ _ _ w (count28z L nd wsb kb hb mb cb H width block K n t step first hs cds w hH hH2 hL hlow.1 (by omega) hnd hws hkb hmb C0 hcb hC0 hhn fun h hh => (hbody h hh).1)

theorem new20 (n t : Int) (W B H K fb : Nat) (bo : Option Addr) (hs hs' : List HM) (N B1 B2 B3 B4 B5 : Nat) (cds : List CD) (W0 wr : World) (hl : hs'.length = H) (hH2 : H ≤ 4096) (hK : cds.length = K) (hK2 : K ≤ 4096) (hbw : B * W ≤ 65536) (hW1 : 1 ≤ W) (hN : W0.heap.size = N) (hb : Below N W0 wr)
    (hFF : FilledTo W0 fb H H 3 (fun j => .int .i64 hs[j]!.fr))
    (hROW : (bo = none ∧ H = 0) ∨ ∃ N2 C, bo = some ⟨N2, 0, none⟩ ∧ fb < N2 ∧ Blk W0 N2 C 41 ∧ C.size = H ∧ ∀ j (_ : j < hs'.length), C[j]? = some (.slice hs'[j].ao hs'[j].ws.length hs'[j].ws.length))
    (hBD2 : ∀ j (_ : j < hs'.length), hs'[j].ws = hs[j]!.ws ∧ hs'[j].fr = hs[j]!.fr ∧ ((hs'[j].ao = none ∧ hs'[j].ws = []) ∨ ∃ b, hs'[j].ao = some ⟨b, 0, none⟩ ∧ Blk W0 b (wl hs'[j].ws) 54))
    (h0 : FilledTo wr N K K 3 (fld0 cds)) (h1 : FilledTo wr B1 K K 3 (fld1 cds)) (h2 : FilledTo wr B2 K K 4 (fld2 cds)) (h3 : FilledTo wr B3 K K 3 (fld3 cds)) (h4 : FilledTo wr B4 K K 3 (fld4 cds)) (h5 : FilledTo wr B5 K K 4 (fld5 cds)) :
    Calls Try.prog 20 #[.int .i64 n, .int .i64 t, .int .i64 (W : Int), .int .i64 (B : Int), .slice (some ⟨fb, 0, none⟩) H H, .slice bo H H, .slice (some ⟨N, 0, none⟩) K K, .slice (some ⟨B1, 0, none⟩) K K, .slice (some ⟨B2, 0, none⟩) K K, .slice (some ⟨B3, 0, none⟩) K K, .slice (some ⟨B4, 0, none⟩) K K, .slice (some ⟨B5, 0, none⟩) K K] wr fun e w' => RetNN n t W B H K hs' cds wr e w' := by
  subst hN
  have hB : B ≤ 65536 := Nat.le_trans (Nat.le_mul_of_pos_right B hW1) hbw
  refine newNode n t W B H K fb bo hs' _ B1 B2 B3 B4 B5 cds wr hl hH2 hK hK2 hbw hB ?_ ?_ ?_ h0 h1 h2 h3 h4 h5
  · obtain ⟨C, g1, g2, g3⟩ := hFF.below hb
    refine ⟨C, g1, g2, fun j hj => ?_⟩
    have hj2 : j < hs'.length := by omega
    have e : hs'[j]! = hs'[j] := by simp [hj2]
    rw [g3 j hj]
    simp only
    rw [e, (hBD2 j hj2).2.1]
  · intro j hj
    have hj2 : j < hs'.length := by omega
    have e : hs'[j]! = hs'[j] := by simp [hj2]
    rcases hROW with ⟨_, h⟩ | ⟨N2, C, g1, _, g3, _, g5⟩
    · omega
    · exact ⟨N2, g1, by rw [(g3.below hb g3.lt).cell, e]; exact g5 j hj2⟩
  · intro j hj
    rcases (hBD2 j hj).2.2 with h | ⟨b, g1, g2⟩
    · exact .inl h
    · exact .inr ⟨b, g1, g2.below hb g2.lt⟩

theorem chain4 {fb N : Nat} {w W0 wr w1 w2 w3 w4 : World} (a : Below fb w W0) (b : Below N W0 wr) (hN : W0.heap.size = N) (h : fb ≤ N) (c : Below wr.heap.size wr w1) (d : Below wr.heap.size w1 w2) (e : Below w2.heap.size w2 w3) (f : Below w3.heap.size w3 w4) : Below fb w w4 := by
  have s1 := b.size
  have s2 := c.size
  have s3 := d.size
  have s4 := e.size
  exact ((((a.trans (b.mono h)).trans (c.mono (by omega))).trans (d.mono (by omega))).trans (e.mono (by omega))).trans (f.mono (by omega))

/-- What count makes of cast j. -/
noncomputable def wantCD (cds : List CD) (step n t : Int) (first stop width : Nat) (bs : List (List Nat)) (j : Nat) : CD :=
  if first ≤ j ∧ j < stop then countedCD cds[j]! step n t (mostOf width j bs).1 (mostOf width j bs).2 else cds[j]!
theorem want_of {cds cds' : List CD} {step n t : Int} {first stop width : Nat} {bs : List (List Nat)} (h : ∀ j (h : j < cds.length), cds'[j]? = some (if first ≤ j ∧ j < stop then countedCD cds[j] step n t (mostOf width j bs).1 (mostOf width j bs).2 else cds[j])) {j : Nat} (hj : j < cds.length) : cds'[j]! = wantCD cds step n t first stop width bs j := by
  have e : cds[j]! = cds[j] := by simp [hj]
  unfold wantCD
  rw [e, getElem!_def, h j hj]
theorem want_leader (cds : List CD) (step n t : Int) (first stop width : Nat) (bs : List (List Nat)) (j : Nat) : (wantCD cds step n t first stop width bs j).leader = cds[j]!.leader := by
  unfold wantCD countedCD
  split
  · split
    · rfl
    · split <;> rfl
  · rfl
theorem mfun_in {m width first b : Nat} {bs : List (List Nat)} {p : Nat × Nat} (h : b < m) (hp : mostOf width (first + b) bs = p) : mfun m width first bs (b * 2) = p.1 ∧ mfun m width first bs (b * 2 + 1) = p.2 := by
  unfold mfun
  rw [show b * 2 / 2 = b by omega, show (b * 2 + 1) / 2 = b by omega, if_pos h, if_pos h, if_pos (by omega), if_neg (by omega), hp]
  exact ⟨rfl, rfl⟩
theorem mfun_out {m width first b : Nat} {bs : List (List Nat)} (h : ¬ b < m) : mfun m width first bs (b * 2) = 0 ∧ mfun m width first bs (b * 2 + 1) = 0 := by
  unfold mfun
  rw [show b * 2 / 2 = b by omega, show (b * 2 + 1) / 2 = b by omega, if_neg h, if_neg h]
  exact ⟨rfl, rfl⟩
end Go.Proofs.Qxb6619498a
