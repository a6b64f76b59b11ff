/- cloneInts -/
import Derived.Test.Qxb6617641aMem
namespace Go.Proofs.Qxb6617641a
open Go.RowKit

theorem clone_nil (w : World) : Calls Try.prog 6 #[.slice none 0 0] w fun e w' => (∃ v, e = .returned v ∧ IntsV w' v 0 (fun _ => 0) ∧ FreshFrom w.heap.size v) ∧ Below w.heap.size w w' := by
  have hn := fun (w : World) => Lib.run_eql_slice_nil (P := Try.prog) w 23 3 none 0 0 0 0 Try.underlying23
  go_enter Try.func6, Try.ntmps6
  go_wp2
  go_ret
  exact ⟨⟨_, rfl, .inl ⟨rfl, rfl⟩, FreshFrom.nil _ _ _⟩, Below.refl _ _⟩

/-- the row that is being filled -/
def part (f : Nat → Int) (k : Nat) (j : Nat) : Value := if j < k then .int .i64 (f j) else .int .i64 0

theorem part_zero (f : Nat → Int) : part f 0 = fun _ => .int .i64 0 := by
  funext j; simp [part]
theorem part_succ (f : Nat → Int) (k j : Nat) : (if j = k then Value.int .i64 (f k) else part f k j) = part f (k + 1) j := by
  unfold part
  by_cases h : j = k
  · subst h; simp
  · by_cases h2 : j < k
    · simp [h, h2]; intro; omega
    · have : ¬ j < k + 1 := by omega
      simp [h, h2, this]

theorem clone_some (a : Addr) (n c : Nat) (f : Nat → Int) (w : World) (hn : n ≤ 1048576)
    (hc : 0 < n → a = ⟨a.block, a.off, none⟩ ∧ a.block < w.heap.size) (hcell : ∀ i, i < n → w.cell? ⟨a.block, a.off + i, none⟩ = some (.int .i64 (f i))) :
    Calls Try.prog 6 #[.slice (some a) n c] w fun e w' => (∃ v, e = .returned v ∧ IntsV w' v n f ∧ FreshFrom w.heap.size v) ∧ Below w.heap.size w w' := by
  have hnil := fun (w : World) => Lib.run_eql_slice_nil (P := Try.prog) w 23 3 (some a) n c 0 0 Try.underlying23
  have hmk := fun (w : World) => run_make_row' (P := Try.prog) 23 3 (.int .i64 0) 8 Try.underlying23 Try.info3 rfl .i64 .i64 n (by omega) (by omega) w
  have Hc := hid hc
  have Hcell := hid hcell
  clear hc hcell
  go_enter Try.func6, Try.ntmps6
  go_wp2
  go_loopw [4] (fun i wr => ∃ k : Nat, k ≤ n ∧ i = .int .i64 (k : Int) ∧ wr.rowIs w.heap.size 3 n (part f k) ∧ Below w.heap.size w wr) (fun i _ => n - (intOf i).toNat)
  case atStart => exact ⟨0, Nat.zero_le _, rfl, by rw [part_zero]; exact World.rowIs_made _ _ _ _, (Below.refl _ _).alloc (Nat.le_refl _) _⟩
  case round =>
    obtain ⟨k, hk, rfl, hrow, hb⟩ := hrel
    have Hrow := hid hrow
    have Hb := hid hb
    by_cases hlt : k < n
    · obtain ⟨ha, hbl⟩ := Hc.out (by omega)
      obtain ⟨b, off, spot⟩ := a
      simp at ha
      subst ha
      have c1 : wr.cell? ⟨b, off + k, none⟩ = some (.int .i64 (f k)) := by rw [hb.cell (p := ⟨b, off + k, none⟩) hbl]; exact Hcell.out k hlt
      have c2 := hrow.cell hlt
      have c3 := hrow.frozen k
      clear hrow hb
      go_wp2
      go_roundw
      case rel => exact ⟨k + 1, by omega, by go_num, (Hrow.out.set k _).congr (fun j _ => part_succ f k j), Hb.out.setCell (Nat.le_refl _) _⟩
      case measure => simp [intOf]; omega
    · clear hrow hb
      go_wp2
      go_ret
      refine ⟨⟨_, rfl, IntsV.of_row (Hrow.out.congr fun i hi => ?_), FreshFrom.at (Nat.le_refl _) _ _ _⟩, Hb.out⟩
      have : i < k := by omega
      simp [part, this]

/-- cloneInts -/
theorem cloneInts_any (v : Value) (n : Nat) (f : Nat → Int) (w : World) (h : IntsV w v n f) (hn : n ≤ 1048576) :
    Calls Try.prog 6 #[v] w fun e w' => (∃ v, e = .returned v ∧ IntsV w' v n f ∧ FreshFrom w.heap.size v) ∧ Below w.heap.size w w' := by
  rcases h with ⟨rfl, rfl⟩ | ⟨a, c, rfl, rfl⟩ | ⟨h0, b, off, c, rfl, hb, hc⟩
  · refine (clone_nil w).mono ?_
    rintro e w' ⟨⟨v, rfl, hv, hfr⟩, hb⟩
    refine ⟨⟨v, rfl, ?_, hfr⟩, hb⟩
    rcases hv with h | h | ⟨h, _⟩
    · exact .inl h
    · exact .inr (.inl h)
    · omega
  · exact clone_some a 0 c f w (by omega) (fun h => by omega) (fun i hi => by omega)
  · exact clone_some ⟨b, off, none⟩ n c f w hn (fun _ => ⟨rfl, hb⟩) hc
end Go.Proofs.Qxb6617641a
