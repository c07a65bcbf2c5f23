import Derived.Test.Qxb6619498aRows
import Derived.Test.Qxb6619498aOpen
import Derived.Test.Qxb6619498aLaw3Nn
import Derived.Test.Qxb6619498aLaw3Ns
import Derived.Test.Qxb6619498aLaw3Sn
import Derived.Test.Qxb6619498aLaw3Ss
namespace Go.Proofs.Qxb6619498a.judgeLaw
open Go.ChangeShapes Go.WideShapes Go.ChangeAt Go.RowKit

theorem law3 (ao po : Option Addr) (cap : Nat) (gs : List G) (w : World) (hs : GsAt w ao gs)
    (hw : po = none ∨ ∃ b o : Nat, ∃ v c : Int, po = some ⟨b, o, none⟩ ∧ w.cell? ⟨b, o, none⟩ = some (.int .i64 v) ∧ w.cell? ⟨b, o + 1, none⟩ = some (.int .i64 c)) :
    Calls Try.prog 3 #[.slice ao gs.length cap, .pointer po] w fun e w' => e = .returned (.bool true) ∧ Below w.heap.size w w' := by
  rcases hw with rfl | ⟨b, o, v, c, rfl, h0, h1⟩ <;> cases ao
  · exact law3Nn cap gs w hs
  · exact law3Ns _ cap gs w hs
  · exact law3Sn cap gs b o v c w hs h0 h1
  · exact law3Ss _ cap gs b o v c w hs h0 h1

set_option maxRecDepth 100000 in
theorem lifted (os : Os) (started : os.Started) (H : Type) (enc : TypeId × Value → H) :
    ReturnsInHanded {} Try.checked os 3 .any (Rows.fnJudgeVerdictsMatchTheirDefinitionsSpec.pre6 enc Try.prog Try.f3 Rows.fnJudgeVerdictsMatchTheirDefinitionsRow.domain false) (Rows.fnJudgeVerdictsMatchTheirDefinitionsSpec.post enc Try.prog Try.f3 false true false false) := by
  refine returnsInHanded_of_change (C := Try.checked) own started (by kernel_rfl) Try.func3
    (ChangeSpec.witness6 (enc := enc) (C := Try.checked) false ⟨#[], #[.slice none 0 0, .pointer none], []⟩ 8 (by kernel_rfl) (by kernel_rfl) (by kernel_rfl) (by kernel_rfl)) ?_
  intro W base args ds gs before hval0 hW hcnd _
  have hval : ∀ (j : Nat) t v, Try.f3.params[j]? = some t → args[j]? = some v → Value.okWide Try.prog W .any base t v := hval0
  have hW' := hW
  obtain ⟨p, q, hA0, hV, rfl, hfz, hnd⟩ := hW
  have hA : DataW.TrodAll enc Try.prog W 0 (fun _ => true) true Try.f3.params.toList args.toList ds p := hA0
  rw [Try.params3] at hA hval
  obtain ⟨v0, vs0, d0, ds0, p0, q0, hargs, rfl, rfl, h0, r0⟩ := trodAll_cons hA
  obtain ⟨v1, vs1, d1, ds1, p1, q1, rfl, rfl, rfl, h1, r1⟩ := trodAll_cons r0
  obtain ⟨rfl, rfl, rfl⟩ := trodAll_nil r1
  obtain rfl : args = #[v0, v1] := by cases args; simp_all
  obtain ⟨rfl, rfl⟩ := trodVars_none hV
  obtain ⟨a0, len0, cap0, rfl⟩ := okWide_slice Try.underlying22 (hval 0 22 v0 rfl rfl)
  obtain ⟨a1, rfl⟩ := okWide_pointer Try.underlying23 (hval 1 23 v1 rfl rfl)
  have k0 := h0
  have k1 := h1
  have lt0 : ∀ x ∈ p0, x.block < W.heap.size := by obtain ⟨m, hm⟩ := k0; exact DataW.trod_lt m _ _ _ hm
  have lt1 : ∀ x ∈ p1, x.block < W.heap.size := by obtain ⟨m, hm⟩ := k1; exact DataW.trod_lt m _ _ _ hm
  obtain ⟨sss, hl0, hrows⟩ : ∃ sss : List G, sss.length = len0 ∧ GsAt W a0 sss := by
    obtain ⟨fuel, hf⟩ := h0
    exact gs_of_trod hf
  have hwant : a1 = none ∨ ∃ b o : Nat, ∃ v c : Int, a1 = some ⟨b, o, none⟩ ∧ W.cell? ⟨b, o, none⟩ = some (.int .i64 v) ∧ W.cell? ⟨b, o + 1, none⟩ = some (.int .i64 c) := by
    obtain ⟨fuel, hf⟩ := h1
    exact want_of_trod hf
  clear hA0 hval0
  have hwalk := law3 a0 a1 cap0 sss W hrows hwant
  rw [hl0] at hwalk
  refine hwalk.mono fun e W' ⟨he, bel⟩ => ?_
  subst he
  exact ⟨_, rfl, _, _, _, [], _, [], hW', trodAll_mk1 (shut_bool Try.underlying4 _),
    (trodAll_cons_mk (Below.trod laidOut (by kernel_rfl) (of_decide_eq_true (by kernel_rfl)) k0 bel lt0)
      (trodAll_cons_mk (Below.trod laidOut (by kernel_rfl) (of_decide_eq_true (by kernel_rfl)) k1 bel lt1) trodAll_mk0)), rfl, bel.frame _, fun h => by cases h⟩

theorem over : Rows.fnJudgeVerdictsMatchTheirDefinitionsRow.holds Try.pinned (OpenSpec.ofChange Rows.fnJudgeVerdictsMatchTheirDefinitionsSpec) :=
  OpenClaim.holds_of_wide 3 Try.f3 rfl rfl rfl rfl rfl rfl rfl ⟨rfl, rfl, rfl, rfl, rfl⟩ rfl rfl rfl rfl rfl (by kernel_rfl) Try.func3 (by kernel_rfl)
    (of_decide_eq_true (by kernel_rfl)) (by unfold Func.isWrapper; first | (rw [if_pos (by decide +kernel)]; kernel_rfl) | (rw [if_neg (by decide +kernel)]; exact ⟨rfl, rfl⟩))
    (fun os started H enc _ => lifted os started H enc)

theorem proved : Rows.FnJudgeVerdictsMatchTheirDefinitionsSaid := over
end Go.Proofs.Qxb6619498a.judgeLaw
