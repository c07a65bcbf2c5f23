import Derived.Test.Qxb6619794aKin2
namespace Go.Proofs.Qxb6619794a
open Go.RowKit

theorem insSpec_ne {sss : List (List ByteArray)} {key : ByteArray} {ci : Nat} (h : 0 < sss.length) (hc : chunkIx sss key = ci) (hci : ci < sss.length) :
    insSpec sss key = if sss[ci].length + 1 ≤ 512 then sss.set ci (insAt sss[ci] key)
      else (sss.set ci ((insAt sss[ci] key).take ((sss[ci].length + 1) / 2))).take (ci + 1) ++ (insAt sss[ci] key).drop ((sss[ci].length + 1) / 2) :: (sss.set ci ((insAt sss[ci] key).take ((sss[ci].length + 1) / 2))).drop (ci + 1) := by
  have hg : sss.getD ci [] = sss[ci] := by simp [hci]
  cases sss with
  | nil => simp at h
  | cons a l =>
    unfold insSpec
    simp only [hc, hg, insAt_length]

theorem insert_any (B kb : Nat) (cs : List Ch) (key : ByteArray) (ep : Int) (sh : Bool) (w : World) (hk : KAt B w kb cs ep sh) (hwf : WF (cs.map Ch.ss)) (hl : cs.length ≤ 2000000) :
    Calls Try.prog 41 #[.pointer (some ⟨kb, 0, none⟩), .string key] w fun e w' => RetK B kb cs (insSpec (cs.map Ch.ss) key) ep sh w e w' := by
  rcases Nat.eq_zero_or_pos cs.length with h0 | h0
  · have : cs = [] := List.eq_nil_of_length_eq_zero h0
    subst this
    exact insert_nil B kb key ep sh w hk
  · have hn : 0 < (cs.map Ch.ss).length := by simpa using h0
    have hci := chunkIx_lt (key := key) hwf hn
    have hci' : chunkIx (cs.map Ch.ss) key < cs.length := by simpa using hci
    rw [insSpec_ne hn rfl hci]
    have e : (cs.map Ch.ss)[chunkIx (cs.map Ch.ss) key] = cs[chunkIx (cs.map Ch.ss) key].ss := by simp
    rw [e]
    by_cases hs : cs[chunkIx (cs.map Ch.ss) key].ss.length + 1 ≤ 512
    · rw [if_pos hs]
      exact insert_small B kb cs key ep sh w hk hwf h0 hl _ rfl hci' hs
    · rw [if_neg hs]
      exact insert_split B kb cs key ep sh w hk hwf h0 hl _ rfl hci' (by omega)

set_option maxHeartbeats 1000000 in
theorem zzinsert_any (B kb : Nat) (cs : List Ch) (key : ByteArray) (ep : Int) (sh : Bool) (w : World) (hk : KAt B w kb cs ep sh) (hwf : WF (cs.map Ch.ss)) (hl : cs.length ≤ 2000000) :
    Calls Try.prog 31 #[.pointer (some ⟨kb, 0, none⟩), .string key] w fun e w' => RetK B kb cs (insSpec (cs.map Ch.ss) key) ep sh w e w' := by
  have H := insert_any B kb cs key ep sh w hk hwf hl
  have HI : Hid _ := H
  clear H hk hwf
  go_enter Try.func31, Try.ntmps31
  go_wp2_with fail
  refine Calls.mono HI.out ?_
  rintro e w' ⟨rfl, hr⟩
  have HR : Hid (∃ cs', KAt B w' kb cs' ep sh ∧ cs'.map Ch.ss = insSpec (cs.map Ch.ss) key ∧ others (cs'.map Ch.e) ep ≤ others (cs.map Ch.e) ep ∧ KFrame B w w' ∧ Shared cs ep sh w w') := hr
  clear hr
  go_wp2_with fail
  go_end0
  exact ⟨rfl, HR.out⟩
end Go.Proofs.Qxb6619794a
