import Derived.Test.Qxb6619498aGdef
import Derived.ProofKit
import Derived.OpenShut
import Derived.ShutString
import Derived.ChangeOld
import Derived.Deep.SlicePairs
import Derived.Deep.Fields23
namespace Go.Proofs.Qxb6619498a
open Go.ChangeShapes Go.WideShapes Go.ChangeAt Go.RowKit Go.Deep

theorem own : ownKnob Try.prog.godebug = none := by kernel_rfl
theorem laidOut : laidOutB Try.prog = true := by kernel_rfl
theorem cells3 : Try.prog.cellsOf 3 = 1 := by kernel_rfl
theorem cells4 : Try.prog.cellsOf 4 = 1 := by kernel_rfl

theorem plain_of_cell {w : World} {b off : Nat} {spot : Option Nat} {v : Value} (h : w.cell? ((⟨b, off, spot⟩ : Addr).add 0) = some v) : spot = none := by
  simpa [Addr.add] using World.cell?_spot h

instance : Inhabited G := ⟨⟨0, false, 0, 0⟩⟩

section
variable {H : Type} {enc : TypeId × Value → H} {w : World} {base : Nat} {spare : Nat → Bool} {held : Bool}

set_option maxRecDepth 100000 in
theorem gs_of_trod {fuel : Nat} {ao : Option Addr} {n cap : Nat} {x : DataW H × List MemPlace} (h : DataW.trod enc Try.prog w base spare held fuel 22 [.slice ao n cap] = some x) : ∃ gs : List G, gs.length = n ∧ GsAt w ao gs := by
  rcases open_slice Try.underlying22 h with ⟨hcs, _⟩ | ⟨a, len, cap', m, fu, D, Pl, hcs, _, hl, _, hm, _, hx⟩
  · simp at hcs
    obtain ⟨rfl, rfl, rfl⟩ := hcs
    exact ⟨[], rfl, fun j hj => by simp at hj⟩
  · simp at hcs
    obtain ⟨rfl, rfl, rfl⟩ := hcs
    have hlm : n ≤ m := by rw [hm]; split <;> omega
    rw [show Try.prog.cellsOf 26 = 4 from by kernel_rfl] at hx
    have each : ∀ i, i < n → ∃ g : G, w.cell? (a.add (i * 4)) = some (.int .i64 g.node) ∧ w.cell? (a.add (i * 4 + 1)) = some (.bool g.dec) ∧ w.cell? (a.add (i * 4 + 2)) = some (.int .i64 g.val) ∧ w.cell? (a.add (i * 4 + 3)) = some (.int .i64 g.conf) := by
      intro i hi
      obtain ⟨cs', h1, h2⟩ := hx i (by omega)
      obtain ⟨_, hlen, hcell⟩ := World.cells?_some h1
      obtain ⟨xs, k, hk, hxy, _, hxl, hf⟩ := DataW.trod_struct Try.underlying26 h2
      match xs, hxl, cs', hlen with
      | [y0, y1, y2, y3], _, [v0, v1, v2, v3], _ =>
        have g0 := hf 0 _ rfl
        have g1 := hf 1 _ rfl
        have g2 := hf 2 _ rfl
        have g3 := hf 3 _ rfl
        simp [cells3, cells4] at g0 g1 g2 g3
        obtain ⟨n0, e0, _⟩ := DataW.trod_int Try.underlying3 g0
        obtain ⟨n1, e1, _⟩ := DataW.trod_bool Try.underlying4 g1
        obtain ⟨n2, e2, _⟩ := DataW.trod_int Try.underlying3 g2
        obtain ⟨n3, e3, _⟩ := DataW.trod_int Try.underlying3 g3
        simp at e0 e1 e2 e3
        subst e0 e1 e2 e3
        have q0 := hcell 0 (by omega)
        have q1 := hcell 1 (by omega)
        have q2 := hcell 2 (by omega)
        have q3 := hcell 3 (by omega)
        rw [add_add] at q0 q1 q2 q3
        exact ⟨⟨n0, n1, n2, n3⟩, by simpa using q0, by simpa using q1, by simpa using q2, by simpa using q3⟩
    obtain ⟨y, hy⟩ := choose_lt each
    refine ⟨(List.range n).map y, by simp, fun j hj => ?_⟩
    have hj' : j < n := by simpa using hj
    obtain ⟨b, off, spot⟩ := a
    have h00 := (hy 0 (by omega)).1
    rw [Nat.zero_mul] at h00
    obtain rfl := plain_of_cell h00
    obtain ⟨q0, q1, q2, q3⟩ := hy j hj'
    rw [add_plain] at q0 q1 q2 q3
    refine ⟨b, off, rfl, ?_, ?_, ?_, ?_⟩
    · rw [q0]; simp
    · rw [Nat.add_assoc, q1]; simp
    · rw [Nat.add_assoc, q2]; simp
    · rw [Nat.add_assoc, q3]; simp

theorem want_of_trod {fuel : Nat} {po : Option Addr} {x : DataW H × List MemPlace} (h : DataW.trod enc Try.prog w base spare held fuel 23 [.pointer po] = some x) : po = none ∨ ∃ b o : Nat, ∃ v c : Int, po = some ⟨b, o, none⟩ ∧ w.cell? ⟨b, o, none⟩ = some (.int .i64 v) ∧ w.cell? ⟨b, o + 1, none⟩ = some (.int .i64 c) := by
  rcases open_ptr_fields2 Try.underlying23 Try.underlying33 (by kernel_rfl) (by kernel_rfl) h with ⟨hcs, hx⟩ | ⟨b, o, m, v0, v1, y0, y1, hcs, hb, hx, c0, c1, t0, t1⟩
  · simp at hcs; exact .inl hcs
  · simp at hcs
    obtain ⟨n0, e0, _⟩ := DataW.trod_int Try.underlying3 t0
    obtain ⟨n1, e1, _⟩ := DataW.trod_int Try.underlying3 t1
    simp at e0 e1
    subst e0 e1
    exact .inr ⟨b, o, n0, n1, hcs, c0, c1⟩
end
end Go.Proofs.Qxb6619498a
