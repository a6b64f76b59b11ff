/- (*loopIndex).all, the shims, zzBytes_.. -/
import Derived.Test.Qxb6617641aWc
namespace Go.Proofs.Qxb6617641a
open Go.RowKit

/-- ZZMakeLoopIndex -/
theorem make_any (a1 a2 : Option Addr) (n1 c1 n2 c2 : Nat) (w : World) :
    Calls Try.prog 7 #[.slice a1 n1 c1, .slice a2 n2 c2] w fun e w' => e = .returned (.pointer (some ⟨w.heap.size, 0, none⟩)) ∧ w' = w.alloc (.cells #[.slice a1 n1 c1, .slice a2 n2 c2] 35) := by
  go_enter Try.func7, Try.ntmps7
  go_wp2
  go_ret
  exact ⟨rfl, rfl⟩

/-- ZZLoopIndexGroups -/
theorem getGroups_any (b : Nat) (v : Value) (w : World) (h : w.cell? ⟨b, 0, none⟩ = some v) :
    Calls Try.prog 13 #[.pointer (some ⟨b, 0, none⟩)] w fun e w' => e = .returned v ∧ w = w' := by
  go_enter Try.func13, Try.ntmps13
  go_wp2
  go_ret
  exact ⟨rfl, rfl⟩

/-- ZZLoopIndexOf -/
theorem getOf_any (b : Nat) (v : Value) (w : World) (h : w.cell? ⟨b, 1, none⟩ = some v) :
    Calls Try.prog 11 #[.pointer (some ⟨b, 0, none⟩)] w fun e w' => e = .returned v ∧ w = w' := by
  go_enter Try.func11, Try.ntmps11
  go_wp2
  go_ret
  exact ⟨rfl, rfl⟩

/-- (*loopIndex).all: a new row 0, 1, .., n - 1 -/
theorem all_any (b n c : Nat) (a : Option Addr) (w : World) (h : w.cell? ⟨b, 0, none⟩ = some (.slice a n c)) (hn : n ≤ 1048576) :
    Calls Try.prog 14 #[.pointer (some ⟨b, 0, none⟩)] w fun e w' => e = .returned (.slice (some ⟨w.heap.size, 0, none⟩) n n) ∧ w'.rowIs w.heap.size 3 n (fun i => .int .i64 (i : Int)) ∧ Below w.heap.size w w' := by
  have hmk := fun (w : World) => run_make_row' (P := Try.prog) 23 3 (.int .i64 0) 8 Try.underlying23 Try.info3 rfl .i64 .i64 n (by omega) (by omega) w
  go_enter Try.func14, Try.ntmps14
  go_wp2
  go_loopw [13] (fun i wr => ∃ k : Nat, k ≤ n ∧ i = .int .i64 (k : Int) ∧ wr.rowIs w.heap.size 3 n (part (fun j => (j : Int)) k) ∧ Below w.heap.size w wr) (fun i _ => n - (intOf i).toNat)
  case atStart => exact ⟨0, Nat.zero_le _, rfl, by rw [part_zero]; exact World.rowIs_made _ _ _ _, (Below.refl _ _).alloc (Nat.le_refl _) _⟩
  case round =>
    obtain ⟨k, hk, rfl, hrow, hb⟩ := hrel
    have Hrow := hid hrow
    have Hb := hid hb
    by_cases hlt : k < n
    · have c2 := hrow.cell hlt
      have c3 := hrow.frozen k
      clear hrow hb
      go_wp2
      go_roundw
      case rel => exact ⟨k + 1, by omega, by go_num, (Hrow.out.set k _).congr (fun j _ => part_succ (fun j => (j : Int)) k j), Hb.out.setCell (Nat.le_refl _) _⟩
      case measure => simp [intOf]; omega
    · clear hrow hb
      go_wp2
      go_ret
      refine ⟨rfl, Hrow.out.congr fun i hi => ?_, Hb.out⟩
      have : i < k := by omega
      simp [part, this]

theorem zzAll_any (b n c : Nat) (a : Option Addr) (w : World) (h : w.cell? ⟨b, 0, none⟩ = some (.slice a n c)) (hn : n ≤ 1048576) :
    Calls Try.prog 8 #[.pointer (some ⟨b, 0, none⟩)] w fun e w' => e = .returned (.slice (some ⟨w.heap.size, 0, none⟩) n n) ∧ w'.rowIs w.heap.size 3 n (fun i => .int .i64 (i : Int)) ∧ Below w.heap.size w w' := by
  go_enter Try.func8, Try.ntmps8
  go_wp2_with fail
  refine (all_any b n c a w h hn).mono ?_
  rintro e w' ⟨rfl, h1, h2⟩
  have H1 := hid h1
  have H2 := hid h2
  clear h1 h2
  go_wp2
  go_ret
  exact ⟨rfl, H1.out, H2.out⟩

/-- A bool is returned; if it is true, Q. -/
def AnsIf (e : Ending) (Q : Prop) : Prop := ∃ b, e = .returned (.bool b) ∧ (b = true → Q)
theorem ansNo (Q : Prop) : AnsIf (.returned (.bool false)) Q := ⟨false, rfl, fun h => by cases h⟩
theorem ansYes {Q : Prop} (h : Q) : AnsIf (.returned (.bool true)) Q := ⟨true, rfl, fun _ => h⟩

/-- zzBytes_..: it answers; a yes bounds every length. -/
theorem bytes_any (vg vo : Value) (n m : Nat) (l : Nat → Nat) (f : Nat → Nat → Int) (g : Nat → Int) (w : World) (hg : GroupsV w vg n l f) (ho : IntsV w vo m g) (hm : m ≤ 9223372036854775807) (hn : n ≤ 9223372036854775807) (hl : ∀ i, i < n → l i ≤ 9223372036854775807) :
    Calls Try.prog 4 #[vg, vo] w fun e w' => AnsIf e (n ≤ 1048576 ∧ m ≤ 1048576 ∧ ∀ i, i < n → l i ≤ 1048576) ∧ w = w' := by
  obtain ⟨oa, oc, rfl⟩ := ho.len
  clear ho
  have Hg := hid hg
  have Hl := hid hl
  clear hl
  obtain ⟨ga, gc, rfl⟩ := hg.len
  clear hg
  go_enter Try.func4, Try.ntmps4
  by_cases h1 : 1048576 < n
  · go_wp2
    go_ret
    exact ⟨ansNo _, rfl⟩
  go_wp2
  go_loop [5, 6] (fun z i => (∃ y : Int, z = .int .i64 y) ∧ ∃ k : Nat, k ≤ n ∧ i = .int .i64 (k : Int) ∧ ∀ j, j < k → l j ≤ 1048576) (fun _ i => n - (intOf i).toNat)
  case atStart => exact ⟨⟨_, rfl⟩, 0, Nat.zero_le _, rfl, fun j hj => by omega⟩
  case round =>
    obtain ⟨⟨y, rfl⟩, k, hk, rfl, hj⟩ := hrel
    have Hj := hid hj
    clear hj
    by_cases hlt : k < n
    · rcases Hg.out with ⟨_, h⟩ | ⟨_, _, _, h⟩ | ⟨_, b, off, c, hv, hb, hc⟩
      · omega
      · omega
      simp at hv
      obtain ⟨rfl, rfl⟩ := hv
      obtain ⟨x, hx, hxv⟩ := hc k hlt
      obtain ⟨xa, xc, rfl⟩ := hxv.len
      have hlk := Hl.out k hlt
      clear hc hxv
      by_cases h2 : 1048576 < l k
      · go_wp2
        go_ret
        exact ⟨ansNo _, rfl⟩
      · go_wp2
        · go_ret
          exact ⟨ansNo _, rfl⟩
        · go_round
          case rel =>
            refine ⟨⟨_, rfl⟩, k + 1, by omega, by go_num, fun j hjk => ?_⟩
            by_cases e : j = k
            · subst e; omega
            · exact Hj.out j (by omega)
          case measure => simp [intOf]; omega
    · by_cases h3 : 1048576 < m
      · go_wp2
        go_ret
        exact ⟨ansNo _, rfl⟩
      · go_wp2
        · go_ret
          exact ⟨ansNo _, rfl⟩
        · go_ret
          exact ⟨ansYes ⟨by omega, by omega, fun i hi => Hj.out i (by omega)⟩, rfl⟩
end Go.Proofs.Qxb6617641a
