/- THE STACK OF CLOSING BRACKETS: a slice whose cells are known, in an array of ours or a grown one. -/
import Derived.Test.Qxb6616012aMem
import Derived.ArgAppend
import Derived.Deep.AppendLies
namespace Go.Proofs.Qxb6616012a
open Go.RowKit

/-- The slice '.slice (some ⟨g, 0, none⟩) xs.length cap' holds the bytes xs; all its cells up to the capacity are there and may be written. -/
structure Stk (w : World) (B g cap : Nat) (xs : List Int) : Prop where
  base : B ≤ g
  lt : g < w.heap.size
  le : xs.length ≤ cap
  max : cap ≤ maxLen
  holds : ∀ j, j < xs.length → w.cell? ⟨g, j, none⟩ = some (.int .u8 (xs.getD j 0))
  there : ∀ j, j < cap → (w.cell? ⟨g, j, none⟩).isSome = true ∧ w.frozen? ⟨g, j, none⟩ = false

theorem Stk.of_block {w w' : World} {B g cap : Nat} {xs : List Int} (h : Stk w B g cap xs) (e : w'.heap[g]? = w.heap[g]?) (hs : w.heap.size ≤ w'.heap.size) : Stk w' B g cap xs :=
  ⟨h.base, Nat.lt_of_lt_of_le h.lt hs, h.le, h.max, fun j hj => by rw [World.cell?_of_block (a := ⟨g, j, none⟩) e]; exact h.holds j hj,
    fun j hj => by rw [World.cell?_of_block (a := ⟨g, j, none⟩) e, World.frozen?_of_block (a := ⟨g, j, none⟩) e]; exact h.there j hj⟩

/-- One is popped. -/
theorem Stk.pop {w : World} {B g cap : Nat} {xs : List Int} {c : Int} (h : Stk w B g cap (xs ++ [c])) : Stk w B g cap xs := by
  have hl : (xs ++ [c]).length = xs.length + 1 := by simp
  have := h.le
  refine ⟨h.base, h.lt, by omega, h.max, fun j hj => ?_, h.there⟩
  rw [h.holds j (by omega)]
  simp [List.getD_eq_getElem?_getD, List.getElem?_append_left hj]

theorem getD_append_last (xs : List Int) (c : Int) (j : Nat) : (xs ++ [c]).getD j 0 = if j = xs.length then c else xs.getD j 0 := by
  by_cases h : j = xs.length
  · subst h; simp
  · rw [if_neg h]
    rcases Nat.lt_or_ge j xs.length with h2 | h2
    · simp [List.getD_eq_getElem?_getD, List.getElem?_append_left h2]
    · have : xs.length + 1 ≤ j := by omega
      simp [List.getD_eq_getElem?_getD, List.getElem?_eq_none (l := xs ++ [c]) (i := j) (by simp; omega), List.getElem?_eq_none (l := xs) h2]

theorem Stk.set {w : World} {B g cap : Nat} {xs : List Int} (h : Stk w B g cap xs) (hr : xs.length + 1 ≤ cap) (c : Int) : Stk (w.setCell ⟨g, xs.length, none⟩ (.int .u8 c)) B g cap (xs ++ [c]) := by
  have ht := h.there xs.length (by omega)
  obtain ⟨u, hu⟩ := Option.isSome_iff_exists.1 ht.1
  refine ⟨h.base, by simpa using h.lt, by simpa using hr, h.max, fun j hj => ?_, fun j hj => ?_⟩
  · rw [getD_append_last]
    by_cases e : j = xs.length
    · subst e
      rw [if_pos rfl]
      exact cell_set_same hu _
    · rw [if_neg e, cell_set_off (fun h => e h.symm)]
      exact h.holds j (by simp at hj; omega)
  · rw [frozen_set]
    refine ⟨?_, (h.there j hj).2⟩
    by_cases e : j = xs.length
    · subst e
      rw [cell_set_same hu _]; rfl
    · rw [cell_set_off (fun h => e h.symm)]
      exact (h.there j hj).1

theorem push_run {w : World} {B g cap : Nat} {xs : List Int} (h : Stk w B g cap xs) (hn : xs.length + 1 ≤ 1048576) (hB : B ≤ w.heap.size)
    (ad : Addr) (c1 : Nat) (c : Int) (hc : w.cell? ad = some (.int .u8 c)) (ty : TypeId) :
    ∃ g' cap' w', (Builtin.append_ #[28, 28] ty #[.slice (some ⟨g, 0, none⟩) xs.length cap, .slice (some ad) 1 c1]).run Try.prog w = .ok (.slice (some ⟨g', 0, none⟩) (xs.length + 1) cap') w' ∧
      Stk w' B g' cap' (xs ++ [c]) ∧ w.grownBy w' (some g) := by
  have hinfo : (Try.prog.info? 5).map (fun i => (i.zero, i.size, i.bytes)) = some (some (.int .u8 0), 1, 1) := by kernel_rfl
  obtain ⟨i, hi, hz⟩ := Option.map_eq_some_iff.1 hinfo
  simp only [Prod.mk.injEq] at hz
  obtain ⟨hz, hs, hb⟩ := hz
  have hnews : ∀ j u, ([Value.int .u8 c])[j]? = some u → w.cell? (ad.add j) = some u := by
    intro j u hj
    match j, hj with
    | 0, hj => simp at hj; subst hj; simpa [Addr.add] using hc
  have hone : ∀ u ∈ [Value.int .u8 c], u.oneCell' = true := by intro u hu; simp at hu; subst hu; rfl
  by_cases hr : xs.length + 1 ≤ cap
  · have hrun := run_append_room_cells (P := Try.prog) w 28 ty 5 i Try.underlying28 hi g 0 xs.length cap ad 1 c1 [.int .u8 c] (by simp [hs]) hnews hone hr
      (fun j hj => by simp at hj; subst hj; simpa [hs] using (h.there xs.length (by omega)).1) (fun j hj => by simp at hj; subst hj; simpa [hs] using (h.there xs.length (by omega)).2)
    have e : w.setCells g (0 + xs.length * i.size) [.int .u8 c] = w.setCell ⟨g, xs.length, none⟩ (.int .u8 c) := by
      rw [hs, Nat.zero_add, Nat.mul_one]; rfl
    rw [e] at hrun
    exact ⟨g, cap, _, hrun, h.set hr c, rfl, rfl, rfl, by simp, fun k _ hk => Deep.blk_setCell_other w _ _ k (fun e => hk (by rw [e]))⟩
  · obtain ⟨v', w', hrun, r1, r2⟩ := run_append_arg_grows (P := Try.prog) w 28 ty 5 i (.int .u8 0) 1 1 Try.underlying28 hi hz hs hb rfl (by omega) ⟨g, 0, none⟩ xs.length cap (xs.map (Value.int .u8)) (by simp)
      (fun j u hj => by
        have hjl : j < xs.length := by
          have := (List.getElem?_eq_some_iff.1 hj).1
          simpa using this
        rw [Addr.add_lit, Nat.zero_add, h.holds j hjl]
        rw [← hj]
        simp [List.getD_eq_getElem?_getD, List.getElem?_eq_getElem hjl]) ad 1 c1 [.int .u8 c] (by simp) hnews (by omega) (by unfold maxLen; omega) (by omega)
    obtain ⟨g', cap', rfl, hg', hlt'⟩ := r1.form (by omega)
    refine ⟨g', cap', w', hrun, ?_, ?_⟩
    · obtain ⟨hlen, ⟨h0, _⟩ | ⟨g2, cap2, cur, hv, hb2, hblk, hle, hmax, hsz, htake⟩⟩ := r1
      · cases h0
      · simp at hv
        obtain ⟨rfl, rfl⟩ := hv
        refine ⟨Nat.le_trans hB hg', hlt', by simpa using hle, hmax, fun j hj => ?_, fun j hj => ?_⟩
        · have hj' : j < xs.length + 1 := by simpa using hj
          have hg : cur.toList[j]? = (xs.map (Value.int .u8) ++ [Value.int .u8 c])[j]? := by
            rw [← htake, List.getElem?_take_of_lt (by omega)]
          rw [cell_of_row w' g' j cur 5 (0, 0) hblk]
          rw [← Array.getElem?_toList, hg, getD_append_last]
          by_cases e : j = xs.length
          · subst e; simp
          · have h2 : j < xs.length := by omega
            rw [if_neg e]
            rw [List.getElem?_append_left (by simpa using h2)]
            simp [List.getElem?_eq_getElem h2]
        · have hjs : j < cur.size := by rw [hsz]; omega
          rw [cell_of_row w' g' j cur 5 (0, 0) hblk]
          refine ⟨by simp [hjs], ?_⟩
          simp [World.frozen?, hblk]
    · exact ⟨r2.os, r2.tape, r2.output, r2.size, fun k hk _ => r2.block k hk (by simp)⟩

theorem wp_push {w : World} {B g cap : Nat} {xs : List Int} (h : Stk w B g cap xs) (hn : xs.length + 1 ≤ 1048576) (hB : B ≤ w.heap.size)
    {o : Oper} {a : Act} {K : Act → World → Prop} {Q : Exit → Act → World → Prop} (s x : Operand)
    (ho : o.op = .call { callee := .builtin .append, args := #[s, x], argTypes := #[28, 28] })
    (hs : a.eval s = .slice (some ⟨g, 0, none⟩) xs.length cap) (ad : Addr) (c1 : Nat) (c : Int) (hx : a.eval x = .slice (some ad) 1 c1) (hc : w.cell? ad = some (.int .u8 c))
    (hk : ∀ g' cap' w', Stk w' B g' cap' (xs ++ [c]) → w.grownBy w' (some g) → K (a.put o.dst (.slice (some ⟨g', 0, none⟩) (xs.length + 1) cap')) w') : o.wp Try.prog a w K Q := by
  obtain ⟨g', cap', w', hr, h2, h3⟩ := push_run h hn hB ad c1 c hc o.type
  unfold Oper.wp execOp
  simp only [ho, resolve, invoke, builtin, Sem.run_bind, Sem.run_pure, Result.andThen_ok, List.map_toArray, List.map_cons, List.map_nil, hs, hx, hr]
  exact hk g' cap' w' h2 h3

/-- AT A STEP OF A REGION THAT DRAWS ITS ORDER. -/
theorem step_push {w : World} {B g cap : Nat} {xs : List Int} (h : Stk w B g cap xs) (hn : xs.length + 1 ≤ 1048576) (hB : B ≤ w.heap.size)
    {ops : Array Oper} {o : Oper} {a : Act} {K : Act → World → Prop} {Q : Exit → Act → World → Prop} {E : Prop} (hgd : o.guard = none) (s x : Operand)
    (ho : o.op = .call { callee := .builtin .append, args := #[s, x], argTypes := #[28, 28] })
    (hs : a.eval s = .slice (some ⟨g, 0, none⟩) xs.length cap) (ad : Addr) (c1 : Nat) (c : Int) (hx : a.eval x = .slice (some ad) 1 c1) (hc : w.cell? ad = some (.int .u8 c))
    (hk : ∀ g' cap' w', Stk w' B g' cap' (xs ++ [c]) → w.grownBy w' (some g) → K (a.put o.dst (.slice (some ⟨g', 0, none⟩) (xs.length + 1) cap')) w') :
    if Region.wanted o (yielded ops a.tmps) = true then Oper.wp Try.prog o a w K Q else E := by
  have hw : Region.wanted o (yielded ops a.tmps) = true := by simp [Region.wanted, hgd]
  rw [if_pos hw]
  exact wp_push h hn hB s x ho hs ad c1 c hx hc hk

/-- Several are pushed, with room. -/
theorem Stk.sets {B g cap : Nat} : ∀ (news : List Int) {w : World} {xs : List Int}, Stk w B g cap xs → xs.length + news.length ≤ cap → Stk (w.setCells g xs.length (news.map (Value.int .u8))) B g cap (xs ++ news)
  | [], _, _, h, _ => by simpa [World.setCells] using h
  | c :: r, w, xs, h, hr => by
    have h1 := h.set (by simp at hr; omega) c
    have h2 := Stk.sets r h1 (by simp at hr ⊢; omega)
    simp only [List.map_cons, World.setCells]
    simpa [List.append_assoc] using h2

theorem wpList_push {w : World} {B g cap : Nat} {xs : List Int} (h : Stk w B g cap xs)
    {ops : Array Oper} {rest : List Oper} {o : Oper} {a : Act} {Q : Exit → Act → World → Prop} (hgd : o.guard = none) (s x : Operand)
    (ho : o.op = .call { callee := .builtin .append, args := #[s, x], argTypes := #[28, 28] })
    (hs : a.eval s = .slice (some ⟨g, 0, none⟩) xs.length cap) (ad : Addr) (m c1 : Nat) (news : List Int) (hm : news.length = m) (hx : a.eval x = .slice (some ad) m c1)
    (hnews : ∀ j u, (news.map (Value.int .u8))[j]? = some u → w.cell? (ad.add j) = some u) (hroom : xs.length + m ≤ cap)
    (hk : Stk (w.setCells g xs.length (news.map (Value.int .u8))) B g cap (xs ++ news) → wpList Try.prog ops Q rest (a.put o.dst (.slice (some ⟨g, 0, none⟩) (xs.length + m) cap)) (w.setCells g xs.length (news.map (Value.int .u8)))) :
    wpList Try.prog ops Q (o :: rest) a w := by
  subst hm
  have hinfo : (Try.prog.info? 5).map (fun i => (i.zero, i.size, i.bytes)) = some (some (.int .u8 0), 1, 1) := by kernel_rfl
  obtain ⟨i, hi, hz⟩ := Option.map_eq_some_iff.1 hinfo
  simp only [Prod.mk.injEq] at hz
  obtain ⟨_, hsz, _⟩ := hz
  have hone : ∀ u ∈ news.map (Value.int .u8), u.oneCell' = true := by intro u hu; simp at hu; obtain ⟨z, _, rfl⟩ := hu; rfl
  have hrun := run_append_room_cells (P := Try.prog) w 28 o.type 5 i Try.underlying28 hi g 0 xs.length cap ad news.length c1 (news.map (Value.int .u8)) (by simp [hsz]) hnews hone hroom
    (fun j hj => by rw [hsz]; simpa using (h.there (xs.length + j) (by simp at hj; omega)).1) (fun j hj => by rw [hsz]; simpa using (h.there (xs.length + j) (by simp at hj; omega)).2)
  have e : 0 + xs.length * i.size = xs.length := by rw [hsz]; omega
  rw [e] at hrun
  refine wpList_plain hgd fun K hK => ?_
  unfold Oper.wp execOp
  simp only [ho, resolve, invoke, builtin, Sem.run_bind, Sem.run_pure, Result.andThen_ok, List.map_toArray, List.map_cons, List.map_nil, hs, hx, hrun]
  exact hK _ _ (hk (h.sets news hroom))
end Go.Proofs.Qxb6616012a
