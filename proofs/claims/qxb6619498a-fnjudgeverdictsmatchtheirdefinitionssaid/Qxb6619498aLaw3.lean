import Derived.Test.Qxb6619498aLawJ
import Derived.Test.Qxb6619498aGrade
import Derived.Test.Qxb6619498aPlain
namespace Go.Proofs.Qxb6619498a
open Go.RowKit

/-- The made slice of decisions, its first k entries laid. -/
def Fill (B : Nat) (w : World) (dso : Option Addr) (gs : List G) (k : Nat) : Prop :=
  gs.length = 0 ∨ ∃ N C, dso = some ⟨N, 0, none⟩ ∧ B ≤ N ∧ Blk w N C 31 ∧ C.size = gs.length * 4 ∧ ∀ j (h : j < gs.length), j < k → C[j * 4]? = some (.int .i64 gs[j].node) ∧ C[j * 4 + 1]? = some (.bool gs[j].dec) ∧ C[j * 4 + 2]? = some (.int .i64 gs[j].val) ∧ C[j * 4 + 3]? = some (.int .i64 gs[j].conf)

theorem Fill.gs {B : Nat} {w : World} {dso : Option Addr} {gs : List G} (h : Fill B w dso gs gs.length) : GsAt w dso gs := by
  intro j hj
  rcases h with h0 | ⟨N, C, hd, _, hb, _, hc⟩
  · omega
  · obtain ⟨h1, h2, h3, h4⟩ := hc j hj hj
    exact ⟨N, 0, hd, by rw [hb.cell, Nat.zero_add]; exact h1, by rw [hb.cell, Nat.zero_add]; exact h2, by rw [hb.cell, Nat.zero_add]; exact h3, by rw [hb.cell, Nat.zero_add]; exact h4⟩

theorem fill_step {B : Nat} {w : World} {gs : List G} {k N : Nat} {C : Array Value} (hk : k < gs.length) (hB : B ≤ N) (hb : Blk w N C 31) (hC : C.size = gs.length * 4) (hc : ∀ j (h : j < gs.length), j < k → C[j * 4]? = some (.int .i64 gs[j].node) ∧ C[j * 4 + 1]? = some (.bool gs[j].dec) ∧ C[j * 4 + 2]? = some (.int .i64 gs[j].val) ∧ C[j * 4 + 3]? = some (.int .i64 gs[j].conf)) :
    Fill B ((((w.setCell ⟨N, k * 4, none⟩ (.int .i64 gs[k].node)).setCell ⟨N, k * 4 + 1, none⟩ (.bool gs[k].dec)).setCell ⟨N, k * 4 + 2, none⟩ (.int .i64 gs[k].val)).setCell ⟨N, k * 4 + 3, none⟩ (.int .i64 gs[k].conf)) (some ⟨N, 0, none⟩) gs (k + 1) := by
  refine .inr ⟨N, _, rfl, hB, (((hb.set _ _).set _ _).set _ _).set _ _, by simp [hC], ?_⟩
  intro j hj hjk
  simp only [Array.getElem?_setIfInBounds, Array.size_setIfInBounds, hC]
  by_cases hjk2 : j = k
  · subst hjk2
    refine ⟨?_, ?_, ?_, ?_⟩
    · rw [if_neg (by omega), if_neg (by omega), if_neg (by omega), if_pos rfl, if_pos (by omega)]
    · rw [if_neg (by omega), if_neg (by omega), if_pos rfl, if_pos (by omega)]
    · rw [if_neg (by omega), if_pos rfl, if_pos (by omega)]
    · rw [if_pos rfl, if_pos (by omega)]
  · obtain ⟨h1, h2, h3, h4⟩ := hc j hj (by omega)
    refine ⟨?_, ?_, ?_, ?_⟩
    · rw [if_neg (by omega), if_neg (by omega), if_neg (by omega), if_neg (by omega)]; exact h1
    · rw [if_neg (by omega), if_neg (by omega), if_neg (by omega), if_neg (by omega)]; exact h2
    · rw [if_neg (by omega), if_neg (by omega), if_neg (by omega), if_neg (by omega)]; exact h3
    · rw [if_neg (by omega), if_neg (by omega), if_neg (by omega), if_neg (by omega)]; exact h4
end Go.Proofs.Qxb6619498a
