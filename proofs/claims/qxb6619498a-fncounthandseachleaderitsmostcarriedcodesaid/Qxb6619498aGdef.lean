import Derived.Test.Qxb6619498aJudge
namespace Go.Proofs.Qxb6619498a
open Go.RowKit

structure G where
  node : Int
  dec : Bool
  val : Int
  conf : Int

def GsAt (w : World) (ao : Option Addr) (gs : List G) : Prop :=
  ∀ j (h : j < gs.length), ∃ b off, ao = some ⟨b, off, none⟩ ∧ w.cell? ⟨b, off + j * 4, none⟩ = some (.int .i64 gs[j].node) ∧ w.cell? ⟨b, off + j * 4 + 1, none⟩ = some (.bool gs[j].dec) ∧ w.cell? ⟨b, off + j * 4 + 2, none⟩ = some (.int .i64 gs[j].val) ∧ w.cell? ⟨b, off + j * 4 + 3, none⟩ = some (.int .i64 gs[j].conf)

theorem GsAt.below {w w' : World} {ao : Option Addr} {gs : List G} (h : GsAt w ao gs) (hb : Below w.heap.size w w') : GsAt w' ao gs := by
  intro j hj
  obtain ⟨b, off, h0, h1, h2, h3, h4⟩ := h j hj
  exact ⟨b, off, h0, cell_below h1 hb, cell_below h2 hb, cell_below h3 hb, cell_below h4 hb⟩

def ok (want : Option (Int × Int)) (g : G) : Bool :=
  match want with
  | none => true
  | some (v, c) => g.dec && g.val == v && g.conf == c

def f6_ok (gs : List G) (ao : Option Addr) (f : Value) : Prop := f = .pointer none ∨ ∃ j b off, j < gs.length ∧ ao = some ⟨b, off, none⟩ ∧ f = .pointer (some ⟨b, off + j * 4 + 2, none⟩)

def RetW (v t : Bool) (w : World) (e : Ending) (w' : World) : Prop := ∃ a, e = .returned (.agg #[.bool a, .bool v, .bool t]) ∧ Below w.heap.size w w'
end Go.Proofs.Qxb6619498a
