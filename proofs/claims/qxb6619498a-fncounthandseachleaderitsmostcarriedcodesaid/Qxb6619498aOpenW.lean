import Derived.Test.Qxb6619498aOpen
import Derived.Test.Qxb6619498aWcall
namespace Go.Proofs.Qxb6619498a
open Go.ChangeShapes Go.WideShapes Go.ChangeAt Go.RowKit Go.Deep

theorem cells39 : Try.prog.cellsOf 39 = 1 := by kernel_rfl
theorem cells43 : Try.prog.cellsOf 43 = 2 := by kernel_rfl
theorem cells58 : Try.prog.cellsOf 58 = 2 := by kernel_rfl
instance : Inhabited CallD := ⟨⟨0, none, 0, []⟩⟩

section
variable {H : Type} {enc : TypeId × Value → H} {w : World} {base : Nat} {spare : Nat → Bool} {held : Bool}

theorem raw_of_trod {fuel : Nat} {v : Value} {x : DataW H × List MemPlace} (h : DataW.trod enc Try.prog w base spare held fuel 39 [v] = some x) : ∃ ao cap ps, v = .slice ao ps.length cap ∧ RawAt w ao ps := by
  rcases open_slice_pairs Try.underlying39 Try.underlying43 cells43 rfl rfl cells3 cells3 h with ⟨hcs, _⟩ | ⟨a, len, cap, m, fu, V0, V1, D0, D1, P0, P1, hcs, _, hl, _, hm, _, hx⟩
  · simp at hcs
    exact ⟨none, 0, [], hcs, fun j hj => by simp at hj⟩
  · simp at hcs
    have hlm : len ≤ m := by rw [hm]; split <;> omega
    have each : ∀ i, i < len → ∃ p : Int × Int, w.cell? (a.add (i * 2)) = some (.int .i64 p.1) ∧ w.cell? (a.add (i * 2 + 1)) = some (.int .i64 p.2) := by
      intro i hi
      obtain ⟨h0, h1, t0, t1⟩ := hx i (by omega)
      obtain ⟨n0, e0, _⟩ := DataW.trod_int Try.underlying3 t0
      obtain ⟨n1, e1, _⟩ := DataW.trod_int Try.underlying3 t1
      simp at e0 e1
      rw [e0] at h0
      rw [e1] at h1
      exact ⟨(n0, n1), h0, h1⟩
    obtain ⟨y, hy⟩ := choose_lt each
    refine ⟨some a, cap, (List.range len).map y, by rw [hcs]; simp, fun j hj => ?_⟩
    have hj' : j < len := by simpa using hj
    obtain ⟨b, off, spot⟩ := a
    have h00 := (hy 0 (by omega)).1
    rw [Nat.zero_mul] at h00
    obtain rfl := plain_of_cell h00
    obtain ⟨q0, q1⟩ := hy j hj'
    rw [add_plain] at q0 q1
    refine ⟨b, off, rfl, ?_, ?_⟩
    · rw [q0]; simp
    · rw [Nat.add_assoc, q1]; simp

theorem calls_of_trod {fuel : Nat} {ao : Option Addr} {n cap : Nat} {x : DataW H × List MemPlace} (h : DataW.trod enc Try.prog w base spare held fuel 55 [.slice ao n cap] = some x) : ∃ cl : List CallD, cl.length = n ∧ CallsAt w ao cl := by
  rcases open_slice_pairs Try.underlying55 Try.underlying58 cells58 rfl rfl cells3 cells39 h with ⟨hcs, _⟩ | ⟨a, len, cap', m, fu, V0, V1, D0, D1, P0, P1, hcs, _, hl, _, hm, _, hx⟩
  · simp at hcs
    obtain ⟨rfl, rfl, rfl⟩ := hcs
    exact ⟨[], rfl, fun j hj => by simp at hj⟩
  · simp at hcs
    obtain ⟨rfl, rfl, rfl⟩ := hcs
    have hlm : n ≤ m := by rw [hm]; split <;> omega
    have each : ∀ i, i < n → ∃ c : CallD, w.cell? (a.add (i * 2)) = some (.int .i64 c.rd) ∧ w.cell? (a.add (i * 2 + 1)) = some (.slice c.ao c.ps.length c.cap) ∧ RawAt w c.ao c.ps := by
      intro i hi
      obtain ⟨h0, h1, t0, t1⟩ := hx i (by omega)
      obtain ⟨n0, e0, _⟩ := DataW.trod_int Try.underlying3 t0
      obtain ⟨pao, pcap, ps, e1, hr⟩ := raw_of_trod t1
      simp at e0
      rw [e0] at h0
      rw [e1] at h1
      exact ⟨⟨n0, pao, pcap, ps⟩, h0, h1, hr⟩
    obtain ⟨y, hy⟩ := choose_lt each
    refine ⟨(List.range n).map y, by simp, fun j hj => ?_⟩
    have hj' : j < n := by simpa using hj
    obtain ⟨b, off, spot⟩ := a
    have h00 := (hy 0 (by omega)).1
    rw [Nat.zero_mul] at h00
    obtain rfl := plain_of_cell h00
    obtain ⟨q0, q1, q2⟩ := hy j hj'
    rw [add_plain] at q0 q1
    refine ⟨b, off, rfl, ?_, ?_, ?_⟩
    · rw [q0]; simp
    · rw [Nat.add_assoc, q1]; simp
    · simpa using q2
end
end Go.Proofs.Qxb6619498a
