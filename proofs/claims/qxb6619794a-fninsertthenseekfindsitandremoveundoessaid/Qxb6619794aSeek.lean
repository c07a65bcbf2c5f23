import Derived.Test.Qxb6619794aBinF
import Derived.LaidEqlPtr
namespace Go.Proofs.Qxb6619794a
open Go.RowKit

theorem hasB_lt {ss : List ByteArray} {key : ByteArray} (hA : Asc ss) (h : hasB ss key = true) : below ss key < ss.length := by
  rw [hasB_iff] at h
  obtain ⟨q, hq, he⟩ := List.mem_iff_getElem.1 h
  have : below ss key = q := below_of (by omega) (fun t h ht => by have := hA.lt t q ht hq; rwa [he] at this) (fun t h ht => by
    rcases Nat.lt_or_ge q t with g | g
    · have := hA.lt q t g h; rw [he] at this; exact ltB_asymm this
    · have : t = q := by omega
      subst this; rw [he]; exact ltB_irrefl _)
  omega

theorem chunkIx_lt {sss : List (List ByteArray)} {key : ByteArray} (hw : WF sss) (hn : 0 < sss.length) : chunkIx sss key < sss.length := by
  unfold chunkIx
  have h1 := below_le (heads sss) key
  rw [heads_length] at h1
  split
  · rename_i h
    have := hasB_lt hw.heads_asc h
    rwa [heads_length] at this
  · omega

theorem KView.still {w w' : World} {kb : Nat} {sss : List (List ByteArray)} (h : KView w kb sss) (hs : Below w.heap.size w w') : KView w' kb sss := by
  obtain ⟨co, cap, h1, h2⟩ := h
  refine ⟨co, cap, cell_below h1 hs, fun j hj => ?_⟩
  obtain ⟨b, off, pb, c, ccap, e1, e2, e3, e4⟩ := h2 j hj
  exact ⟨b, off, pb, c, ccap, e1, cell_below e2 hs, cell_below e3 hs, e4.below hs⟩

/-- seek's answer for a set that is not empty: the chunk and the place. -/
def seekPos (sss : List (List ByteArray)) (key : ByteArray) (h : chunkIx sss key < sss.length) : Nat × Nat :=
  if below sss[chunkIx sss key] key = sss[chunkIx sss key].length then (chunkIx sss key + 1, 0) else (chunkIx sss key, below sss[chunkIx sss key] key)

set_option maxHeartbeats 1000000 in
theorem seek_nil (kb : Nat) (key : ByteArray) (w : World) (hk : KView w kb []) :
    Calls Try.prog 40 #[.pointer (some ⟨kb, 0, none⟩), .string key] w fun e w' => e = .returned (.agg #[.pointer (some ⟨kb, 0, none⟩), .int .i64 0, .int .i64 0]) ∧ Below w.heap.size w w' := by
  obtain ⟨co, cap, h1, h2⟩ := hk
  have h1' : w.cell? ⟨kb, 0, none⟩ = some (.slice co 0 cap) := h1
  have hlt := cell_lt h1'
  have hne : kb ≠ w.heap.size := by have : kb < w.heap.size := hlt; omega
  clear h1 h2
  go_enter Try.func40, Try.ntmps40
  go_wp2_with fail
  exact bodyPost_ret (v := .agg #[.pointer (some ⟨kb, 0, none⟩), .int .i64 0, .int .i64 0]) (by simp [results, Try.results40, go_sem]) rfl ⟨rfl, (Below.refl _ _).alloc (Nat.le_refl _) _⟩

set_option maxHeartbeats 1000000 in
theorem seek_any (kb : Nat) (sss : List (List ByteArray)) (key : ByteArray) (hl : sss.length ≤ 2000000) (hl2 : ∀ ss ∈ sss, ss.length ≤ 2000000) (hw : WF sss) (w : World) (hk : KView w kb sss) (hn : 0 < sss.length) (hci : chunkIx sss key < sss.length) :
    Calls Try.prog 40 #[.pointer (some ⟨kb, 0, none⟩), .string key] w fun e w' => e = .returned (.agg #[.pointer (some ⟨kb, 0, none⟩), .int .i64 (seekPos sss key hci).1, .int .i64 (seekPos sss key hci).2]) ∧ Below w.heap.size w w' := by
  have HKV : Hid (KView w kb sss) := hk
  obtain ⟨co, cap, h1, h2⟩ := hk
  obtain ⟨b, off, pb, c, ccap, e1, e2, e3, e4⟩ := h2 (chunkIx sss key) hci
  subst e1
  have hlt1 : kb < w.heap.size := cell_lt h1
  have hlt2 : b < w.heap.size := cell_lt e2
  have hlt3 : pb < w.heap.size := cell_lt e3
  have HW : Hid (WF sss) := hw
  have HST : Hid (StrsAt w c sss[chunkIx sss key]) := e4
  have HA : Hid (Asc sss[chunkIx sss key]) := (hw _ hci).2.2.1
  have hll := hl2 _ (List.getElem_mem hci)
  have hbl := below_le sss[chunkIx sss key] key
  clear h2 e4 hw hl2
  unfold seekPos
  generalize hcx : chunkIx sss key = ci at *
  have HCX : Hid (chunkIx sss key = ci) := hcx
  clear hcx
  have hn0 : ((sss.length : Int) == 0) = false := by rw [beq_eq_false_iff_ne]; omega
  have hx1 : (ci : Int) < (sss.length : Int) := by omega
  by_cases hbe : below sss[ci] key = sss[ci].length
  · rw [if_pos hbe]
    have HBE : Hid (below sss[ci] key = sss[ci].length) := hbe
    clear hbe
    go_enter Try.func40, Try.ntmps40
    go_wp2_with (first | (go_at_call 42; refine (chunkOf_any _ sss _ hl HW.out _ (HKV.out.still ((Below.refl _ _).alloc (Nat.le_refl _) _))).mono ?_; rintro e w' ⟨rfl, rfl⟩; rw [HCX.out]) | (go_at_call 43; refine (bin43 _ _ sss[ci] _ hll HA.out _ (HST.out.below ((Below.refl _ _).alloc (Nat.le_refl _) _))).mono ?_; rintro e w' ⟨rfl, rfl⟩; rw [HBE.out]))
    exact bodyPost_ret (v := .agg #[.pointer (some ⟨kb, 0, none⟩), .int .i64 ((ci + 1 : Nat) : Int), .int .i64 0]) (by simp [results, Try.results40, go_sem]) rfl ⟨rfl, (Below.refl _ _).alloc (Nat.le_refl _) _⟩
  · rw [if_neg hbe]
    have hne : ((below sss[ci] key : Int) == (sss[ci].length : Int)) = false := by rw [beq_eq_false_iff_ne]; omega
    clear hbe
    go_enter Try.func40, Try.ntmps40
    go_wp2_with (first | (go_at_call 42; refine (chunkOf_any _ sss _ hl HW.out _ (HKV.out.still ((Below.refl _ _).alloc (Nat.le_refl _) _))).mono ?_; rintro e w' ⟨rfl, rfl⟩; rw [HCX.out]) | (go_at_call 43; refine (bin43 _ _ sss[ci] _ hll HA.out _ (HST.out.below ((Below.refl _ _).alloc (Nat.le_refl _) _))).mono ?_; rintro e w' ⟨rfl, rfl⟩))
    exact bodyPost_ret (v := .agg #[.pointer (some ⟨kb, 0, none⟩), .int .i64 ci, .int .i64 (below sss[ci] key)]) (by simp [results, Try.results40, go_sem]) rfl ⟨rfl, (Below.refl _ _).alloc (Nat.le_refl _) _⟩
theorem eql33 (w : World) (a : Addr) : (binOp .eql 33 (.pointer (some a)) (.pointer (some a))).run Try.prog w = .ok (.bool true) w := by
  obtain ⟨j, hj⟩ : ∃ j, Try.prog.info? 56 = some j := Option.isSome_iff_exists.1 (by kernel_rfl)
  exact run_eql_ptr_same (w := w) a Try.underlying33 hj

set_option maxHeartbeats 1000000 in
theorem zzseek_of (kb : Nat) (key : ByteArray) (a b : Nat) (w : World)
    (hc : Calls Try.prog 40 #[.pointer (some ⟨kb, 0, none⟩), .string key] w fun e w' => e = .returned (.agg #[.pointer (some ⟨kb, 0, none⟩), .int .i64 a, .int .i64 b]) ∧ Below w.heap.size w w') :
    Calls Try.prog 27 #[.pointer (some ⟨kb, 0, none⟩), .string key] w fun e w' => e = .returned (.tuple #[.int .i64 a, .int .i64 b, .bool true]) ∧ Below w.heap.size w w' := by
  have HC : Hid _ := hc
  clear hc
  have heq := eql33
  go_enter Try.func27, Try.ntmps27
  go_wp2_with (go_at_call 40; refine Calls.mono HC.out ?_; rintro e w1 ⟨rfl, hb⟩)
  go_quiet (fail)
  go_wp2
  go_ret3
  exact ⟨rfl, (hb.alloc hb.size _).trans (Still.below ⟨_, rfl⟩ _)⟩
end Go.Proofs.Qxb6619794a
