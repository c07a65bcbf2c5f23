import Derived.Test.Qxb6619794aKstep
namespace Go.Proofs.Qxb6619794a
open Go.RowKit

/-- The key in its place. -/
def insAt (ss : List ByteArray) (key : ByteArray) : List ByteArray := ss.take (below ss key) ++ key :: ss.drop (below ss key)
/-- What insert makes of the chunks. -/
def insSpec (sss : List (List ByteArray)) (key : ByteArray) : List (List ByteArray) :=
  match sss with
  | [] => [[key]]
  | sss =>
    if (insAt (sss.getD (chunkIx sss key) []) key).length ≤ 512 then sss.set (chunkIx sss key) (insAt (sss.getD (chunkIx sss key) []) key)
    else (sss.set (chunkIx sss key) ((insAt (sss.getD (chunkIx sss key) []) key).take ((insAt (sss.getD (chunkIx sss key) []) key).length / 2))).take (chunkIx sss key + 1) ++
      (insAt (sss.getD (chunkIx sss key) []) key).drop ((insAt (sss.getD (chunkIx sss key) []) key).length / 2) ::
      (sss.set (chunkIx sss key) ((insAt (sss.getD (chunkIx sss key) []) key).take ((insAt (sss.getD (chunkIx sss key) []) key).length / 2))).drop (chunkIx sss key + 1)

/-- How many chunks are of another epoch. -/
def others (es : List Int) (ep : Int) : Nat := (es.filter fun e => e != ep).length

/-- The rows that a frozen copy shares are as they were. -/
def Shared (cs : List Ch) (ep : Int) (sh : Bool) (w w' : World) : Prop := sh = true → ∀ c ∈ cs, c.e ≠ ep → ∀ C, Blk w c.r C 9 → Blk w' c.r C 9

def RetK (B kb : Nat) (cs : List Ch) (sss' : List (List ByteArray)) (ep : Int) (sh : Bool) (w : World) (e : Ending) (w' : World) : Prop :=
  e = .returned (.tuple #[]) ∧ ∃ cs', KAt B w' kb cs' ep sh ∧ cs'.map Ch.ss = sss' ∧ others (cs'.map Ch.e) ep ≤ others (cs.map Ch.e) ep ∧ KFrame B w w' ∧ Shared cs ep sh w w'

theorem nil_step {B kb : Nat} {key : ByteArray} {ep : Int} {sh : Bool} {w : World} {v : Value} (k1 : B ≤ kb) (hk : Blk w kb #[v, .int .u64 ep, .bool sh] 56) :
    RetK B kb [] [[key]] ep sh w (.returned (.tuple #[])) ((((w.alloc (.cells #[.string key] 9)).alloc (.cells #[.slice (some ⟨w.heap.size, 0, none⟩) 1 1, .int .u64 ep] 59)).alloc (.cells #[.pointer (some ⟨w.heap.size + 1, 0, none⟩)] 57)).setCell ⟨kb, 0, none⟩ (.slice (some ⟨w.heap.size + 1 + 1, 0, none⟩) 1 1)) := by
  have hl := hk.lt
  have n1 : Blk (w.alloc (.cells #[.string key] 9)) w.heap.size #[.string key] 9 := Blk.new _ _ _
  have n2 : Blk ((w.alloc (.cells #[.string key] 9)).alloc (.cells #[.slice (some ⟨w.heap.size, 0, none⟩) 1 1, .int .u64 ep] 59)) (w.heap.size + 1) #[.slice (some ⟨w.heap.size, 0, none⟩) 1 1, .int .u64 ep] 59 := by
    have := Blk.new (w.alloc (.cells #[.string key] 9)) #[.slice (some ⟨w.heap.size, 0, none⟩) 1 1, .int .u64 ep] 59
    rwa [World.size_alloc] at this
  have n3 : Blk (((w.alloc (.cells #[.string key] 9)).alloc (.cells #[.slice (some ⟨w.heap.size, 0, none⟩) 1 1, .int .u64 ep] 59)).alloc (.cells #[.pointer (some ⟨w.heap.size + 1, 0, none⟩)] 57)) (w.heap.size + 1 + 1) #[.pointer (some ⟨w.heap.size + 1, 0, none⟩)] 57 := by
    have := Blk.new ((w.alloc (.cells #[.string key] 9)).alloc (.cells #[.slice (some ⟨w.heap.size, 0, none⟩) 1 1, .int .u64 ep] 59)) #[.pointer (some ⟨w.heap.size + 1, 0, none⟩)] 57
    rwa [World.size_alloc, World.size_alloc] at this
  refine ⟨rfl, [⟨w.heap.size + 1, w.heap.size, 1, ep, [key]⟩], ⟨k1, ?_, by simp, by simp, _, (((hk.alloc _).alloc _).alloc _).set 0 _, .inr ⟨w.heap.size + 1 + 1, 1, rfl, by omega, ?_⟩⟩, rfl, by simp [others], ?_, fun _ c hc => by cases hc⟩
  · intro c hc
    simp only [List.mem_singleton] at hc
    subst hc
    refine ⟨by show B ≤ w.heap.size + 1; omega, by show B ≤ w.heap.size; omega, (n2.alloc _).set_ne (by omega) _ _, ⟨#[.string key], ((n1.alloc _).alloc _).set_ne (by show w.heap.size ≠ kb; omega) _ _, rfl, Nat.le_refl _, by show 1 ≤ maxLen; unfold maxLen; omega, rfl⟩⟩
  · exact ⟨[.pointer (some ⟨w.heap.size + 1, 0, none⟩)], n3.set_ne (by omega) _ _, rfl, Nat.le_refl _, by unfold maxLen; omega, rfl⟩
  · refine ⟨Below.setCell (p := ⟨kb, 0, none⟩) ((((Below.refl B w).alloc (by omega) _).alloc (by simp; omega) _).alloc (by simp; omega) _) k1 _, fun b C t _ h6 _ _ hb => (((hb.alloc _).alloc _).alloc _).set_ne (hb.type_ne hk h6) _ _⟩

set_option maxHeartbeats 1000000 in
theorem insert_nil (B kb : Nat) (key : ByteArray) (ep : Int) (sh : Bool) (w : World) (hk : KAt B w kb [] ep sh) :
    Calls Try.prog 41 #[.pointer (some ⟨kb, 0, none⟩), .string key] w fun e w' => RetK B kb [] [[key]] ep sh w e w' := by
  obtain ⟨k1, k2, k3, k4, v, k5, k6⟩ := hk
  obtain ⟨co, cap, rfl⟩ : ∃ co cap, v = .slice co 0 cap := by
    rcases k6 with ⟨_, h⟩ | ⟨cb, ccap, h, _⟩
    · exact h
    · exact ⟨_, _, h⟩
  have hc1 : w.cell? ⟨kb, 0, none⟩ = some (.slice co 0 cap) := by rw [k5.cell]; rfl
  have hc2 : w.cell? ⟨kb, 1, none⟩ = some (.int .u64 ep) := by rw [k5.cell]; rfl
  have hf : w.frozen? ⟨kb, 0, none⟩ = false := k5.free 0
  have hl : kb < w.heap.size := k5.lt
  have HK : Hid (Blk w kb #[.slice co 0 cap, .int .u64 ep, .bool sh] 56) := k5
  have hca3 : ∀ o1 o2 o3 : Obj, (((w.alloc o1).alloc o2).alloc o3).cell? ⟨kb, 0, none⟩ = some (.slice co 0 cap) := fun o1 o2 o3 => ((((HK.out.alloc o1).alloc o2).alloc o3).cell 0).trans rfl
  have hfa3 : ∀ o1 o2 o3 : Obj, (((w.alloc o1).alloc o2).alloc o3).frozen? ⟨kb, 0, none⟩ = false := fun o1 o2 o3 => (((HK.out.alloc o1).alloc o2).alloc o3).free 0
  clear k2 k3 k4 k5 k6
  go_enter Try.func41, Try.ntmps41
  go_wp2_with fail
  go_end0
  exact nil_step k1 HK.out
end Go.Proofs.Qxb6619794a
