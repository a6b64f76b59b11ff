/- ZZSkipContainer over the nested text -/
import Derived.Test.Qxb6616012aWd
namespace Go.Proofs.Qxb6616012a
open Go.RowKit

set_option maxRecDepth 100000 in
set_option maxHeartbeats 2000000 in
theorem zzSkip_any (hMC : MemClose) (hMO : MemOpen) (k : Nat → Bool) (n dep D C : Nat) (w : World) (hn : 0 < n) (hn2 : n ≤ 65536) (hd : dep ≤ 10000) (hC : (text k n).length ≤ C)
    (hD : D < w.heap.size) (hb : ∀ i, i < (text k n).length → w.cell? ⟨D, i, none⟩ = some (.int .u8 (byteAt k n i))) :
    Calls Try.prog 11 #[.slice (some ⟨D, 0, none⟩) (text k n).length C, .int .i64 0, .int .i64 (dep : Int)] w fun e w' =>
      e = .returned (.tuple #[.bool (endB dep n), .int .i64 ((endP k n dep : Nat) : Int), .int .i64 (dep : Int), .bool false]) ∧ Below w.heap.size w w' := by
  have Hb := hid hb
  clear hb
  go_enter Try.func11, Try.ntmps11
  go_wp2_with fail
  have hst : St (w.alloc (.cells #[.slice (some ⟨D, 0, none⟩) (text k n).length C, .int .i64 0, .int .i64 (dep : Int), .bool false] 47)) w.heap.size D (text k n).length C (byteAt k n) 0 dep := by
    refine ⟨by simp [go_sem], by simp [go_sem], by simp [go_sem], by simp [go_sem], by simp [go_sem], by omega, hC, fun i hi => ?_⟩
    rw [World.cell?_of_block (a := ⟨D, i, none⟩) (Deep.blk_alloc_lt _ _ _ hD)]
    exact Hb.out i hi
  refine (skip_any hMC hMO k n dep w.heap.size D C _ hst hn hn2 hd (by simp) (by simp; omega)).mono ?_
  rintro e w2 ⟨rfl, h2, e2⟩
  have k1 := h2.c1
  have k2 := h2.c2
  have k3 := h2.c3
  have bel : Hid (Below w.heap.size w w2) := by
    refine hid ⟨e2.os, e2.tape, e2.output, ?_, fun b hb => ?_⟩
    · have := e2.size; simp at this; omega
    · rw [e2.block b (by simp; omega) (by omega)]
      exact Deep.blk_alloc_lt _ _ _ hb
  clear h2 e2 hst
  go_wp2_with fail
  go_quiet (fail)
  go_wp2
  exact bodyPost_ret (v := .tuple #[.bool (endB dep n), .int .i64 ((endP k n dep : Nat) : Int), .int .i64 (dep : Int), .bool false]) (by simp [results, Try.results11, go_sem]) rfl
    ⟨rfl, ⟨bel.out.os, bel.out.tape, bel.out.output, bel.out.size, bel.out.block⟩⟩
end Go.Proofs.Qxb6616012a
