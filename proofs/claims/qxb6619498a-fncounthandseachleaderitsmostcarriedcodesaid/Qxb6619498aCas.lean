import Derived.Test.Qxb6619498aNod
namespace Go.Proofs.Qxb6619498a
open Go.RowKit

/-- The casts as they came in. -/
def CastsA (w : World) (ao : Option Addr) (cds : List CD) : Prop := ∀ j (h : j < cds.length), ∃ b off, ao = some ⟨b, off, none⟩ ∧ w.cell? ⟨b, off + j * 6, none⟩ = some (.int .i64 cds[j].leader) ∧ w.cell? ⟨b, off + j * 6 + 1, none⟩ = some (.int .i64 cds[j].next) ∧ w.cell? ⟨b, off + j * 6 + 2, none⟩ = some (.bool cds[j].sends) ∧
  w.cell? ⟨b, off + j * 6 + 3, none⟩ = some (.int .i64 cds[j].gv) ∧ w.cell? ⟨b, off + j * 6 + 4, none⟩ = some (.int .i64 cds[j].gc) ∧ w.cell? ⟨b, off + j * 6 + 5, none⟩ = some (.bool cds[j].graded)
theorem CastsA.below {w w' : World} {ao : Option Addr} {cds : List CD} (h : CastsA w ao cds) (hb : Below w.heap.size w w') : CastsA w' ao cds := by
  intro j hj
  obtain ⟨b, off, h1, h2, h3, h4, h5, h6, h7⟩ := h j hj
  exact ⟨b, off, h1, cell_below h2 hb, cell_below h3 hb, cell_below h4 hb, cell_below h5 hb, cell_below h6 hb, cell_below h7 hb⟩

end Go.Proofs.Qxb6619498a
