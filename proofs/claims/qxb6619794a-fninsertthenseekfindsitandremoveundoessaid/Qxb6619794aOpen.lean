import Derived.Test.Qxb6619794aBase
import Derived.Test.Qxb6619794aRows
import Derived.ProofKit
import Derived.OpenShut
import Derived.ShutString
import Derived.ChangeOld
import Derived.Deep.Strs
namespace Go.Proofs.Qxb6619794a
open Go.ChangeShapes Go.WideShapes Go.ChangeAt Go.RowKit Go.Deep

theorem own : ownKnob Try.prog.godebug = none := by kernel_rfl
theorem laidOut : laidOutB Try.prog = true := by kernel_rfl

theorem plain_of_cell {w : World} {b off : Nat} {spot : Option Nat} {v : Value} (h : w.cell? ((⟨b, off, spot⟩ : Addr).add 0) = some v) : spot = none := by
  simpa [Addr.add] using World.cell?_spot h

section
variable {H : Type} {enc : TypeId × Value → H} {w : World} {base : Nat} {spare : Nat → Bool} {held : Bool}

theorem strs_of_trod {fuel : Nat} {v : Value} {x : DataW H × List MemPlace} (h : DataW.trod enc Try.prog w base spare held fuel 30 [v] = some x) : ∃ c cap ss, v = .slice c ss.length cap ∧ StrsAt w c ss := by
  rcases open_strs Try.underlying30 Try.underlying9 (by kernel_rfl) h with ⟨hcs, _⟩ | ⟨a, len, cap, m, Sx, hcs, _, hl, _, hm, _, hcell⟩
  · simp at hcs
    exact ⟨none, 0, [], hcs, fun j hj => by simp at hj⟩
  · simp at hcs
    have hlm : len ≤ m := by rw [hm]; split <;> omega
    refine ⟨some a, cap, (List.range len).map Sx, by rw [hcs]; simp, fun j hj => ?_⟩
    have hj' : j < len := by simpa using hj
    obtain ⟨b, off, spot⟩ := a
    obtain rfl := plain_of_cell (hcell 0 (by omega)).1
    refine ⟨b, off, rfl, ?_⟩
    have := (hcell j (by omega)).1
    rw [add_plain] at this
    rw [this]; simp

theorem rows_of_trod {fuel : Nat} {ao : Option Addr} {n cap : Nat} {x : DataW H × List MemPlace} (h : DataW.trod enc Try.prog w base spare held fuel 22 [.slice ao n cap] = some x) : ∃ sss : List (List ByteArray), sss.length = n ∧ RowsAt w ao sss := by
  rcases open_slice1 Try.underlying22 (by kernel_rfl) h with ⟨hcs, _⟩ | ⟨a, len, cap', m, fu, V, D, Pl, hcs, _, hl, _, hm, _, hx⟩
  · simp at hcs
    obtain ⟨rfl, rfl, rfl⟩ := hcs
    exact ⟨[], rfl, fun j hj => by simp at hj⟩
  · simp at hcs
    obtain ⟨rfl, rfl, rfl⟩ := hcs
    have hlm : n ≤ m := by rw [hm]; split <;> omega
    have each : ∀ i, i < n → ∃ y : Option Addr × Nat × List ByteArray, V i = .slice y.1 y.2.2.length y.2.1 ∧ StrsAt w y.1 y.2.2 := fun i hi => by
      obtain ⟨c, cp, ss, e1, e2⟩ := strs_of_trod (hx i (by omega)).2
      exact ⟨(c, cp, ss), e1, e2⟩
    obtain ⟨y, hy⟩ := choose_lt each
    refine ⟨(List.range n).map fun i => (y i).2.2, by simp, fun j hj => ?_⟩
    have hj' : j < n := by simpa using hj
    obtain ⟨b, off, spot⟩ := a
    obtain rfl := plain_of_cell (hx 0 (by omega)).1
    refine ⟨b, off, (y j).1, (y j).2.1, rfl, ?_, ?_⟩
    · have := (hx j (by omega)).1
      rw [add_plain, (hy j hj').1] at this
      rw [this]; simp
    · have := (hy j hj').2
      simpa using this

theorem nums_of_trod {fuel : Nat} {ao : Option Addr} {n cap : Nat} {x : DataW H × List MemPlace} (h : DataW.trod enc Try.prog w base spare held fuel 23 [.slice ao n cap] = some x) : ∃ es : List Int, es.length = n ∧ NumsAt w ao es := by
  rcases open_ints Try.underlying23 Try.underlying24 (by kernel_rfl) h with ⟨hcs, _⟩ | ⟨a, len, cap', zs, hcs, _, hl, _, hz, _, hcell, _⟩
  · simp at hcs
    obtain ⟨rfl, rfl, rfl⟩ := hcs
    exact ⟨[], rfl, fun j hj => by simp at hj⟩
  · simp at hcs
    obtain ⟨rfl, rfl, rfl⟩ := hcs
    have hlm : n ≤ zs.length := by rw [hz]; split <;> omega
    refine ⟨zs.take n, by simp; omega, fun j hj => ?_⟩
    have hj' : j < n := by simp at hj; omega
    obtain ⟨b, off, spot⟩ := a
    obtain rfl := plain_of_cell (hcell 0 (by omega))
    refine ⟨b, off, rfl, ?_⟩
    have := hcell j (by omega)
    rw [add_plain] at this
    rw [this]
    have hjz : j < zs.length := by omega
    simp [hjz]
end
end Go.Proofs.Qxb6619794a
