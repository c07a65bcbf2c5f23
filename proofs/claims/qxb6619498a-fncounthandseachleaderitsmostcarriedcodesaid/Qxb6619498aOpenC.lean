import Derived.Test.Qxb6619498aOpenX
import Derived.Test.Qxb6619498aCas
namespace Go.Proofs.Qxb6619498a
open Go.ChangeShapes Go.WideShapes Go.ChangeAt Go.RowKit Go.Deep

theorem cells63 : Try.prog.cellsOf 63 = 2 := by kernel_rfl

section
variable {H : Type} {enc : TypeId × Value → H} {w : World} {base : Nat} {spare : Nat → Bool} {held : Bool}

theorem heard_of_trod {fuel : Nat} {ao : Option Addr} {n cap : Nat} {x : DataW H × List MemPlace} (h : DataW.trod enc Try.prog w base spare held fuel 59 [.slice ao n cap] = some x) : ∃ hs : List HM, hs.length = n ∧ HeardAt w ao hs ∧ ∀ h ∈ hs, ∀ y ∈ h.ws, y ≤ 4294967295 := by
  rcases open_slice_pairs Try.underlying59 Try.underlying63 cells63 rfl rfl cells3 cells41 h with ⟨hcs, _⟩ | ⟨a, len, cap', m, fu, V0, V1, D0, D1, P0, P1, hcs, _, hl, _, hm, _, hx⟩
  · simp at hcs
    obtain ⟨rfl, rfl, rfl⟩ := hcs
    exact ⟨[], rfl, fun j hj => by simp at hj, fun h hh => by simp at hh⟩
  · simp at hcs
    obtain ⟨rfl, rfl, rfl⟩ := hcs
    have hlm : n ≤ m := by rw [hm]; split <;> omega
    have each : ∀ i, i < n → ∃ c : HM, w.cell? (a.add (i * 2)) = some (.int .i64 c.fr) ∧ w.cell? (a.add (i * 2 + 1)) = some (.slice c.ao c.ws.length c.cap) ∧ WO w c.ao c.ws ∧ ∀ y ∈ c.ws, y ≤ 4294967295 := by
      intro i hi
      obtain ⟨h0, h1, t0, t1⟩ := hx i (by omega)
      obtain ⟨n0, e0, _⟩ := DataW.trod_int Try.underlying3 t0
      obtain ⟨pao, pcap, ws, e1, hr, hu⟩ := words_of_trod t1
      simp at e0
      rw [e0] at h0
      rw [e1] at h1
      exact ⟨⟨n0, pao, pcap, ws⟩, h0, h1, hr, hu⟩
    obtain ⟨y, hy⟩ := choose_lt each
    refine ⟨(List.range n).map y, by simp, fun j hj => ?_, fun h hh => ?_⟩
    · have hj' : j < n := by simpa using hj
      obtain ⟨b, off, spot⟩ := a
      have h00 := (hy 0 (by omega)).1
      rw [Nat.zero_mul] at h00
      obtain rfl := plain_of_cell h00
      obtain ⟨q0, q1, q2, _⟩ := hy j hj'
      rw [add_plain] at q0 q1
      refine ⟨b, off, rfl, ?_, ?_, ?_⟩
      · rw [q0]; simp
      · rw [Nat.add_assoc, q1]; simp
      · simpa using q2
    · simp only [List.mem_map, List.mem_range] at hh
      obtain ⟨i, hi, rfl⟩ := hh
      exact (hy i hi).2.2.2

set_option maxRecDepth 100000 in
theorem casts_of_trod {fuel : Nat} {ao : Option Addr} {n cap : Nat} {x : DataW H × List MemPlace} (h : DataW.trod enc Try.prog w base spare held fuel 60 [.slice ao n cap] = some x) : ∃ cds : List CD, cds.length = n ∧ CastsA w ao cds := by
  rcases open_slice Try.underlying60 h with ⟨hcs, _⟩ | ⟨a, len, cap', m, fu, D, Pl, hcs, _, hl, _, hm, _, hx⟩
  · simp at hcs
    obtain ⟨rfl, rfl, rfl⟩ := hcs
    exact ⟨[], rfl, fun j hj => by simp at hj⟩
  · simp at hcs
    obtain ⟨rfl, rfl, rfl⟩ := hcs
    have hlm : n ≤ m := by rw [hm]; split <;> omega
    rw [show Try.prog.cellsOf 68 = 6 from by kernel_rfl] at hx
    have each : ∀ i, i < n → ∃ g : CD, w.cell? (a.add (i * 6)) = some (.int .i64 g.leader) ∧ w.cell? (a.add (i * 6 + 1)) = some (.int .i64 g.next) ∧ w.cell? (a.add (i * 6 + 2)) = some (.bool g.sends) ∧ w.cell? (a.add (i * 6 + 3)) = some (.int .i64 g.gv) ∧ w.cell? (a.add (i * 6 + 4)) = some (.int .i64 g.gc) ∧ w.cell? (a.add (i * 6 + 5)) = some (.bool g.graded) := by
      intro i hi
      obtain ⟨cs', h1, h2⟩ := hx i (by omega)
      obtain ⟨_, hlen, hcell⟩ := World.cells?_some h1
      obtain ⟨xs, k, hk, hxy, _, hxl, hf⟩ := DataW.trod_struct Try.underlying68 h2
      match xs, hxl, cs', hlen with
      | [y0, y1, y2, y3, y4, y5], _, [v0, v1, v2, v3, v4, v5], _ =>
        have g0 := hf 0 _ rfl
        have g1 := hf 1 _ rfl
        have g2 := hf 2 _ rfl
        have g3 := hf 3 _ rfl
        have g4 := hf 4 _ rfl
        have g5 := hf 5 _ rfl
        simp [cells3, cells4] at g0 g1 g2 g3 g4 g5
        obtain ⟨n0, e0, _⟩ := DataW.trod_int Try.underlying3 g0
        obtain ⟨n1, e1, _⟩ := DataW.trod_int Try.underlying3 g1
        obtain ⟨n2, e2, _⟩ := DataW.trod_bool Try.underlying4 g2
        obtain ⟨n3, e3, _⟩ := DataW.trod_int Try.underlying3 g3
        obtain ⟨n4, e4, _⟩ := DataW.trod_int Try.underlying3 g4
        obtain ⟨n5, e5, _⟩ := DataW.trod_bool Try.underlying4 g5
        simp at e0 e1 e2 e3 e4 e5
        subst e0 e1 e2 e3 e4 e5
        have q0 := hcell 0 (by omega)
        have q1 := hcell 1 (by omega)
        have q2 := hcell 2 (by omega)
        have q3 := hcell 3 (by omega)
        have q4 := hcell 4 (by omega)
        have q5 := hcell 5 (by omega)
        rw [add_add] at q0 q1 q2 q3 q4 q5
        exact ⟨⟨n0, n1, n2, n3, n4, n5⟩, by simpa using q0, by simpa using q1, by simpa using q2, by simpa using q3, by simpa using q4, by simpa using q5⟩
    obtain ⟨y, hy⟩ := choose_lt each
    refine ⟨(List.range n).map y, by simp, fun j hj => ?_⟩
    have hj' : j < n := by simpa using hj
    obtain ⟨b, off, spot⟩ := a
    have h00 := (hy 0 (by omega)).1
    rw [Nat.zero_mul] at h00
    obtain rfl := plain_of_cell h00
    obtain ⟨q0, q1, q2, q3, q4, q5⟩ := hy j hj'
    rw [add_plain] at q0 q1 q2 q3 q4 q5
    refine ⟨b, off, rfl, ?_, ?_, ?_, ?_, ?_, ?_⟩
    · rw [q0]; simp
    · rw [Nat.add_assoc, q1]; simp
    · rw [Nat.add_assoc, q2]; simp
    · rw [Nat.add_assoc, q3]; simp
    · rw [Nat.add_assoc, q4]; simp
    · rw [Nat.add_assoc, q5]; simp
end
end Go.Proofs.Qxb6619498a
