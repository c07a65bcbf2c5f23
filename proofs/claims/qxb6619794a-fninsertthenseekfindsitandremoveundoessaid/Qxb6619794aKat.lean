import Derived.Test.Qxb6619794aTouch
import Derived.Test.Qxb6619794aPlain
namespace Go.Proofs.Qxb6619794a
open Go.RowKit

def mkCs (ps rs : List Nat) (sss : List (List ByteArray)) (es : List Int) : List Ch :=
  (List.range sss.length).map fun j => ⟨ps.getD j 0, rs.getD j 0, (sss.getD j []).length, es.getD j 0, sss.getD j []⟩
theorem mkCs_length (ps rs : List Nat) (sss : List (List ByteArray)) (es : List Int) : (mkCs ps rs sss es).length = sss.length := by simp [mkCs]
theorem mkCs_get {ps rs : List Nat} {sss : List (List ByteArray)} {es : List Int} {j : Nat} (h : j < (mkCs ps rs sss es).length) (h1 : j < sss.length) (h2 : j < ps.length) (h3 : j < rs.length) (h4 : j < es.length) : (mkCs ps rs sss es)[j] = ⟨ps[j], rs[j], sss[j].length, es[j], sss[j]⟩ := by
  simp [mkCs, h1, h2, h3, h4]
theorem mkCs_p {ps rs : List Nat} {sss : List (List ByteArray)} {es : List Int} (h1 : ps.length = sss.length) : (mkCs ps rs sss es).map Ch.p = ps := by
  apply List.ext_getElem
  · simp [mkCs, h1]
  · intro j g1 g2; simp [mkCs, g2]
theorem mkCs_r {ps rs : List Nat} {sss : List (List ByteArray)} {es : List Int} (h1 : rs.length = sss.length) : (mkCs ps rs sss es).map Ch.r = rs := by
  apply List.ext_getElem
  · simp [mkCs, h1]
  · intro j g1 g2; simp [mkCs, g2]
theorem mkCs_e {ps rs : List Nat} {sss : List (List ByteArray)} {es : List Int} (h1 : es.length = sss.length) : (mkCs ps rs sss es).map Ch.e = es := by
  apply List.ext_getElem
  · simp [mkCs, h1]
  · intro j g1 g2; simp [mkCs, g2]
theorem mkCs_ss {ps rs : List Nat} {sss : List (List ByteArray)} {es : List Int} : (mkCs ps rs sss es).map Ch.ss = sss := by
  apply List.ext_getElem
  · simp [mkCs]
  · intro j g1 g2; simp [mkCs, g2]

/-- From what ZZMake leaves to a sortedKeys of the call's own. -/
theorem SK.kat {B B0 : Nat} {w : World} {kb : Nat} {ps rs : List Nat} {sss : List (List ByteArray)} {es : List Int} {ep : Int} {sh : Bool} (h : SK B0 w kb ps (valsOf rs sss) es ep sh) (hr : OwnEach B w rs sss) (hB : B ≤ B0) (hl : ∀ ss ∈ sss, ss.length ≤ 2000000) :
    ∃ cs, KAt B w kb cs ep sh ∧ cs.map Ch.ss = sss ∧ cs.map Ch.e = es := by
  obtain ⟨k1, ⟨h1, h2, hnd, h4⟩, v, hkb, hown⟩ := h
  obtain ⟨r1, r2, r3⟩ := hr
  rw [valsOf_length r1] at h1 h2
  refine ⟨mkCs ps rs sss es, ⟨by omega, ?_, ?_, ?_, v, hkb, ?_⟩, mkCs_ss, mkCs_e h2⟩
  · intro c hc
    obtain ⟨j, hj, rfl⟩ := List.mem_iff_getElem.1 hc
    have hj1 : j < sss.length := by rw [mkCs_length] at hj; exact hj
    have hjp : j < ps.length := by omega
    have hjr : j < rs.length := by omega
    have hje : j < es.length := by omega
    have hjv : j < (valsOf rs sss).length := by rw [valsOf_length r1]; exact hj1
    rw [mkCs_get hj hj1 hjp hjr hje]
    have hb := h4 j hjv hjp hje
    rw [valsOf_get hjv hjr hj1] at hb
    have hrow := r3 j hj1 hjr
    have hll := hl _ (List.getElem_mem hj1)
    refine ⟨Nat.le_trans hB hb.1, hrow.1, hb.2, strRow sss[j], hrow.2, by simp [strRow], Nat.le_refl _, by unfold maxLen; show sss[j].length ≤ _; omega, ?_⟩
    show (strRow sss[j]).toList.take sss[j].length = _
    simp [strRow, List.take_of_length_le]
  · rw [mkCs_p h1]; exact hnd
  · rw [mkCs_r r1]; exact r2
  · have hcp : cptrs (mkCs ps rs sss es) = ps.map ptr := by
      rw [← mkCs_p (rs := rs) (es := es) h1]
      simp only [cptrs, List.map_map]; rw [mkCs_p h1]; rfl
    rcases hown.2 with ⟨rfl, h0⟩ | ⟨g, cap, cur, rfl, hg, _⟩
    · refine .inl ⟨List.eq_nil_of_length_eq_zero (by rw [mkCs_length]; omega), none, 0, rfl⟩
    · refine .inr ⟨g, cap, by rw [mkCs_length, h1], by omega, ?_⟩
      rw [hcp]
      exact GRow.of_own hown

theorem Below.comp {B : Nat} {a b c : World} (h : Below B a b) (k : Below b.heap.size b c) (hB : B ≤ a.heap.size) : Below B a c := h.trans (k.mono (Nat.le_trans hB h.size))

/-- What stands of the shared arrays behind a turn that keeps them. -/
theorem shared_after {B kb : Nat} {cs : List Ch} {ep : Int} {sh : Bool} {w w' : World} {ids : List Nat} {ts : List SV} (hk : KAt B w kb cs ep sh) (hs : Sel cs ep cs.length ids ts) (hn : sh = false → ids = []) (hsh : Shared cs ep sh w w') :
    ∀ j (h : j < ids.length) (h2 : j < ts.length), ∃ hc : ids[j] < (cs.map Ch.ss).length, ts[j].2.1 = (cs.map Ch.ss)[ids[j]].length ∧ StrsAt w' ts[j].1 (cs.map Ch.ss)[ids[j]] := by
  intro j h h2
  obtain ⟨hc, hne, he⟩ := hs.2.2 j h h2
  have hsh1 : sh = true := by
    cases sh
    · rw [hn rfl] at h; simp at h
    · rfl
  have hc' : ids[j] < (cs.map Ch.ss).length := by simpa using hc
  refine ⟨hc', ?_, ?_⟩
  · rw [he]; simp [svOf]
  · have hm := List.getElem_mem hc
    have hr := (hk.2.1 _ hm).2.2.2.imp (hsh hsh1 _ hm hne)
    have := hr.strs
    rw [he]; simpa [svOf] using this
end Go.Proofs.Qxb6619794a
