/- cloneGroups -/
import Derived.Test.Qxb6617641aWa
namespace Go.Proofs.Qxb6617641a
open Go.RowKit

theorem groups_nil (w : World) : Calls Try.prog 5 #[.slice none 0 0] w fun e w' => (∃ v, e = .returned v ∧ v = .slice none 0 0) ∧ Below w.heap.size w w' := by
  have hn := fun (w : World) => Lib.run_eql_slice_nil (P := Try.prog) w 22 23 none 0 0 0 0 Try.underlying22
  go_enter Try.func5, Try.ntmps5
  go_wp2
  go_ret
  exact ⟨⟨_, rfl, rfl⟩, Below.refl _ _⟩

theorem GroupsV.of_row {w : World} {b n c : Nat} {l : Nat → Nat} {f : Nat → Nat → Int} {g : Nat → Value} (h : w.rowIs b 23 n g) (hg : ∀ j, j < n → IntsV w (g j) (l j) (f j)) : GroupsV w (.slice (some ⟨b, 0, none⟩) n c) n l f := by
  by_cases h0 : n = 0
  · subst h0
    exact .inr (.inl ⟨_, _, rfl, rfl⟩)
  · exact .inr (.inr ⟨by omega, b, 0, c, rfl, h.lt, fun i hi => ⟨g i, by simpa using h.cell hi, hg i hi⟩⟩)

theorem groups_some (a : Addr) (n c : Nat) (l : Nat → Nat) (f : Nat → Nat → Int) (w : World) (hn : n ≤ 1048576) (hl : ∀ i, i < n → l i ≤ 1048576)
    (hc : 0 < n → a = ⟨a.block, a.off, none⟩ ∧ a.block < w.heap.size) (hcell : ∀ i, i < n → ∃ x, w.cell? ⟨a.block, a.off + i, none⟩ = some x ∧ IntsV w x (l i) (f i)) :
    Calls Try.prog 5 #[.slice (some a) n c] w fun e w' => (∃ v, e = .returned v ∧ GroupsV w' v n l f) ∧ Below w.heap.size w w' := by
  have hnil := fun (w : World) => Lib.run_eql_slice_nil (P := Try.prog) w 22 23 (some a) n c 0 0 Try.underlying22
  have hmk := fun (w : World) => run_make_row' (P := Try.prog) 22 23 (.slice none 0 0) 24 Try.underlying22 Try.info23 rfl .i64 .i64 n (by omega) (by omega) w
  have Hc := hid hc
  have Hl := hid hl
  have Hcell := hid hcell
  clear hc hcell hl
  go_enter Try.func5, Try.ntmps5
  go_wp2
  go_loopw [4] (fun i wr => ∃ k : Nat, k ≤ n ∧ i = .int .i64 (k : Int) ∧ (∃ g, wr.rowIs w.heap.size 23 n g ∧ (∀ j, j < k → IntsV wr (g j) (l j) (f j) ∧ FreshFrom (w.heap.size + 1) (g j))) ∧ Below w.heap.size w wr) (fun i _ => n - (intOf i).toNat)
  case atStart => exact ⟨0, Nat.zero_le _, rfl, ⟨_, World.rowIs_made _ _ _ _, fun j hj => by omega⟩, (Below.refl _ _).alloc (Nat.le_refl _) _⟩
  case round =>
    obtain ⟨k, hk, rfl, ⟨g, hrow, hg⟩, hb⟩ := hrel
    have Hrow := hid hrow
    have Hb := hid hb
    have Hg := hid hg
    by_cases hlt : k < n
    · obtain ⟨ha, hbl⟩ := Hc.out (by omega)
      obtain ⟨x, hx, hxv⟩ := Hcell.out k hlt
      obtain ⟨b, off, spot⟩ := a
      simp at ha
      subst ha
      have c1 : wr.cell? ⟨b, off + k, none⟩ = some x := by rw [hb.cell (p := ⟨b, off + k, none⟩) hbl]; exact hx
      have Hxv := hid (hxv.later hb (Nat.le_refl _))
      clear hrow hb hg hxv hx
      obtain ⟨xa, xc, rfl⟩ := Hxv.out.len
      go_wp2_with fail
      refine (cloneInts_any _ _ _ _ Hxv.out (Hl.out k hlt)).mono ?_
      rintro e w2 ⟨⟨v, rfl, hv, hfr⟩, hb2⟩
      have hrow2 : w2.rowIs w.heap.size 23 n g := Hrow.out.of_block (hb2.block _ Hrow.out.lt)
      have Hrow2 := hid hrow2
      have Hv := hid hv
      have Hfr := hid hfr
      have Hb2 := hid hb2
      have c2 := hrow2.cell hlt
      have c3 := hrow2.frozen k
      clear hrow2 hv hfr hb2
      obtain ⟨va, vc, rfl⟩ := Hv.out.len
      go_wp2_with fail
      go_roundw
      case rel =>
        refine ⟨k + 1, by omega, by go_num, ⟨_, Hrow2.out.set k _, fun j hj => ?_⟩, (Hb.out.trans (Hb2.out.mono (Nat.le_of_lt Hrow.out.lt))).setCell (Nat.le_refl _) _⟩
        by_cases e : j = k
        · subst e
          simp only [if_true]
          exact ⟨Hv.out.setCell (Hfr.out.mono Hrow.out.lt) _, Hfr.out.mono Hrow.out.lt⟩
        · simp only [if_neg e]
          obtain ⟨h1, h2⟩ := Hg.out j (by omega)
          exact ⟨(h1.later Hb2.out (Nat.le_refl _)).setCell h2 _, h2⟩
      case measure => simp [intOf]; omega
    · clear hrow hb hg
      go_wp2
      go_ret
      exact ⟨⟨_, rfl, GroupsV.of_row Hrow.out (fun j hj => (Hg.out j (by omega)).1)⟩, Hb.out⟩

/-- cloneGroups -/
theorem cloneGroups_any (v : Value) (n : Nat) (l : Nat → Nat) (f : Nat → Nat → Int) (w : World) (h : GroupsV w v n l f) (hn : n ≤ 1048576) (hl : ∀ i, i < n → l i ≤ 1048576) :
    Calls Try.prog 5 #[v] w fun e w' => (∃ v, e = .returned v ∧ GroupsV w' v n l f) ∧ Below w.heap.size w w' := by
  rcases h with ⟨rfl, rfl⟩ | ⟨a, c, rfl, rfl⟩ | ⟨h0, b, off, c, rfl, hb, hc⟩
  · refine (groups_nil w).mono ?_
    rintro e w' ⟨⟨v, rfl, rfl⟩, hb⟩
    exact ⟨⟨_, rfl, .inl ⟨rfl, rfl⟩⟩, hb⟩
  · exact groups_some a 0 c l f w (by omega) hl (fun h => by omega) (fun i hi => by omega)
  · exact groups_some ⟨b, off, none⟩ n c l f w hn hl (fun _ => ⟨rfl, hb⟩) hc
end Go.Proofs.Qxb6617641a
