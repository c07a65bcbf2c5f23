import Derived.Test.Qxb6619498aOpenW
import Derived.Test.Qxb6619498aWcl
namespace Go.Proofs.Qxb6619498a
open Go.ChangeShapes Go.WideShapes Go.ChangeAt Go.RowKit Go.Deep

theorem cells41 : Try.prog.cellsOf 41 = 1 := by kernel_rfl
theorem cells54 : Try.prog.cellsOf 54 = 1 := by kernel_rfl
instance : Inhabited RowD := ⟨⟨none, 0, []⟩⟩

theorem u32_nat {x : Int} (h : (Lit.int .u32 x).wf = true) : ∃ y : Nat, x = (y : Int) ∧ y ≤ 4294967295 := by
  simp [Lit.wf, show IntKind.u32.min = 0 from rfl, show IntKind.u32.max = 4294967295 from rfl] at h
  exact ⟨x.toNat, by omega, by omega⟩

section
variable {H : Type} {enc : TypeId × Value → H} {w : World} {base : Nat} {spare : Nat → Bool} {held : Bool}

theorem words_of_trod {fuel : Nat} {v : Value} {x : DataW H × List MemPlace} (h : DataW.trod enc Try.prog w base spare held fuel 41 [v] = some x) : ∃ ao cap ws, v = .slice ao ws.length cap ∧ WO w ao ws ∧ ∀ y ∈ ws, y ≤ 4294967295 := by
  rcases open_slice1 Try.underlying41 cells54 h with ⟨hcs, _⟩ | ⟨a, len, cap, m, fu, V, D, Pl, hcs, _, hl, _, hm, _, hx⟩
  · simp at hcs
    exact ⟨none, 0, [], hcs, fun j hj => by simp at hj, fun y hy => by simp at hy⟩
  · simp at hcs
    have hlm : len ≤ m := by rw [hm]; split <;> omega
    have each : ∀ i, i < len → ∃ y : Nat, w.cell? (a.add i) = some (.int .u32 (y : Int)) ∧ y ≤ 4294967295 := by
      intro i hi
      obtain ⟨h0, t0⟩ := hx i (by omega)
      obtain ⟨n0, e0, _, hwf⟩ := DataW.trod_int Try.underlying54 t0
      obtain ⟨y, rfl, hy⟩ := u32_nat hwf
      simp at e0
      rw [e0] at h0
      exact ⟨y, h0, hy⟩
    obtain ⟨y, hy⟩ := choose_lt each
    refine ⟨some a, cap, (List.range len).map y, by rw [hcs]; simp, fun j hj => ?_, fun z hz => ?_⟩
    · have hj' : j < len := by simpa using hj
      obtain ⟨b, off, spot⟩ := a
      obtain rfl := plain_of_cell (hy 0 (by omega)).1
      have q0 := (hy j hj').1
      rw [add_plain] at q0
      exact ⟨b, off, rfl, by rw [q0]; simp⟩
    · simp only [List.mem_map, List.mem_range] at hz
      obtain ⟨i, hi, rfl⟩ := hz
      exact (hy i hi).2

theorem rows_of_trod {fuel : Nat} {ao : Option Addr} {n cap : Nat} {x : DataW H × List MemPlace} (h : DataW.trod enc Try.prog w base spare held fuel 38 [.slice ao n cap] = some x) : ∃ rows : List RowD, rows.length = n ∧ RowsU w ao rows := by
  rcases open_slice1 Try.underlying38 cells41 h with ⟨hcs, _⟩ | ⟨a, len, cap', m, fu, V, D, Pl, hcs, _, hl, _, hm, _, hx⟩
  · simp at hcs
    obtain ⟨rfl, rfl, rfl⟩ := hcs
    exact ⟨[], rfl, fun j hj => by simp at hj⟩
  · simp at hcs
    obtain ⟨rfl, rfl, rfl⟩ := hcs
    have hlm : n ≤ m := by rw [hm]; split <;> omega
    have each : ∀ i, i < n → ∃ r : RowD, w.cell? (a.add i) = some (.slice r.ao r.ws.length r.cap) ∧ WO w r.ao r.ws := by
      intro i hi
      obtain ⟨h0, t0⟩ := hx i (by omega)
      obtain ⟨pao, pcap, ws, e0, hr, _⟩ := words_of_trod t0
      rw [e0] at h0
      exact ⟨⟨pao, pcap, ws⟩, h0, hr⟩
    obtain ⟨y, hy⟩ := choose_lt each
    refine ⟨(List.range n).map y, by simp, fun j hj => ?_⟩
    have hj' : j < n := by simpa using hj
    obtain ⟨b, off, spot⟩ := a
    obtain rfl := plain_of_cell (hy 0 (by omega)).1
    obtain ⟨q0, q1⟩ := hy j hj'
    rw [add_plain] at q0
    exact ⟨b, off, rfl, by rw [q0]; simp, by simpa using q1⟩
end
end Go.Proofs.Qxb6619498a
