/- THE WALKS of seat b6616741a: zzTermsRefused. -/
import Derived.Test.Qxb6616741aWb
import Derived.Deep.RegionHeld3
import Derived.Deep.DrawnRows
import Derived.Deep.DeepCutAuto
namespace Go.Proofs.Qxb6616741a
open Go.RowKit
attribute [local go_sem ↓] Go.wp_at_zero Go.wp_at_succ

/-- 'id == nil or *id is empty', as the memory says. -/
def IdIs (w : World) (p : Option Addr) (bad : Bool) : Prop :=
  (p = none ∧ bad = true) ∨ ∃ b off s, p = some ⟨b, off, none⟩ ∧ b < w.heap.size ∧ w.cell? ⟨b, off, none⟩ = some (.string s) ∧ bad = s.toList.isEmpty

theorem IdIs.later {w w' : World} {p : Option Addr} {bad : Bool} (h : IdIs w p bad) (hb : Below w.heap.size w w') : IdIs w' p bad := by
  rcases h with h | ⟨b, off, s, h1, h2, h3, h4⟩
  · exact .inl h
  · exact .inr ⟨b, off, s, h1, Nat.lt_of_lt_of_le h2 hb.size, by rw [hb.cell (p := ⟨b, off, none⟩) h2]; exact h3, h4⟩

theorem terms_any (p0 p1 p2 p3 p4 p5 : Option Addr) (idb lim : Bool) (w : World) (hi : IdIs w p0 idb)
    (hl : ∀ w1, Below w.heap.size w w1 → Calls Try.prog 17 #[.pointer p5] w1 fun e w' => (∃ v, e = .returned v ∧ IsErr v lim) ∧ Below w1.heap.size w1 w') :
    Calls Try.prog 15 #[fileV p0 p1 p2 p3 p4 p5] w fun e w' => (∃ v, e = .returned v ∧ IsErr v (idb || ((p1.isNone || p3.isNone) || (p2.isNone || p4.isNone) || lim))) ∧ Below w.heap.size w w' := by
  rcases hi with ⟨rfl, rfl⟩ | ⟨b, off, s, rfl, hlt, hc, rfl⟩
  · exact terms_nil p1 p2 p3 p4 p5 w
  · cases hs : s.toList.isEmpty with
    | true => exact terms_empty b off s p1 p2 p3 p4 p5 w hlt hc hs
    | false => exact terms_some b off s p1 p2 p3 p4 p5 lim w hlt hc hs hl

set_option maxHeartbeats 1000000 in
theorem check_any (p0 p1 p2 p3 p4 p5 : Option Addr) (idb lim : Bool) (w : World) (hi : IdIs w p0 idb)
    (hl : Hid (∀ w1, Below w.heap.size w w1 → Calls Try.prog 17 #[.pointer p5] w1 fun e w' => (∃ v, e = .returned v ∧ IsErr v lim) ∧ Below w1.heap.size w1 w')) :
    Calls Try.prog 14 #[fileV p0 p1 p2 p3 p4 p5] w fun e w' => (∃ v, e = .returned v ∧ IsErr v (idb || ((p1.isNone || p3.isNone) || (p2.isNone || p4.isNone) || lim))) ∧ Below w.heap.size w w' := by
  have Hi := hide hi
  clear hi
  go_enter Try.func14, Try.ntmps14
  go_wp2_with fail
  refine (terms_any p0 p1 p2 p3 p4 p5 idb lim _ (Hi.out.later ((Below.refl _ _).alloc (Nat.le_refl _) _)) ?_).mono ?_
  · intro w1 hw1
    exact hl.out w1 (((Below.refl _ _).alloc (Nat.le_refl _) _).trans (hw1.mono (by simp)))
  rintro e w' ⟨⟨v, rfl, hv⟩, hb⟩
  go_wp2
  go_ret
  exact ⟨⟨_, rfl, hv⟩, ((Below.refl _ _).alloc (Nat.le_refl _) _).trans (hb.mono (by simp))⟩

theorem noFloor_any (w : World) : Calls Try.prog 9 #[] w fun e w' => e = .returned (.pointer none) ∧ w = w' := by
  go_enter Try.func9, Try.ntmps9
  go_wp2
  go_ret
  exact ⟨rfl, rfl⟩
theorem noLimits_any (w : World) : Calls Try.prog 11 #[] w fun e w' => e = .returned (.pointer none) ∧ w = w' := by
  go_enter Try.func11, Try.ntmps11
  go_wp2
  go_ret
  exact ⟨rfl, rfl⟩
theorem floor_any (p a : Option Addr) (n c : Nat) (w : World) : Calls Try.prog 10 #[.pointer p, .slice a n c] w fun e w' => e = .returned (.pointer (some ⟨w.heap.size, 0, none⟩)) ∧ w' = w.alloc (.cells #[.pointer p, .slice a n c, .map none] 57) := by
  go_enter Try.func10, Try.ntmps10
  go_wp2
  go_ret
  exact ⟨rfl, rfl⟩

theorem limits_any (q0 q1 q2 q3 q4 q5 q6 q7 q8 q9 : Option Addr) (w : World) : Calls Try.prog 12 #[.pointer q0, .pointer q1, .pointer q2, .pointer q3, .pointer q4, .pointer q5, .pointer q6, .pointer q7, .pointer q8, .pointer q9] w fun e w' =>
    e = .returned (.pointer (some ⟨w.heap.size, 0, none⟩)) ∧ w' = w.alloc (.cells #[.pointer q0, .pointer q1, .pointer q2, .pointer q3, .pointer q4, .pointer q5, .pointer q6, .pointer q7, .pointer q8, .pointer q9] 59) := by
  go_enter Try.func12, Try.ntmps12
  go_wp2
  go_ret
  exact ⟨rfl, rfl⟩

/-- The price floor's struct, as far as it is looked at. -/
def PfIs (w : World) (p : Option Addr) : Prop :=
  p = none ∨ ∃ b off f a n c, p = some ⟨b, off, none⟩ ∧ b < w.heap.size ∧ w.cell? ⟨b, off, none⟩ = some (.pointer f) ∧ w.cell? ⟨b, off + 1, none⟩ = some (.slice a n c)

/-- The limits' struct: 'bad': it is missing, or one of the nine lacks. -/
def LimIs (w : World) (p : Option Addr) (bad : Bool) : Prop :=
  (p = none ∧ bad = true) ∨ ∃ b off q0 q1 q2 q3 q4 q5 q6 q7 q8 q9, p = some ⟨b, off, none⟩ ∧ b < w.heap.size ∧ w.cell? ⟨b, off, none⟩ = some (.pointer q0) ∧ w.cell? ⟨b, off + 1, none⟩ = some (.pointer q1) ∧ w.cell? ⟨b, off + 2, none⟩ = some (.pointer q2) ∧ w.cell? ⟨b, off + 3, none⟩ = some (.pointer q3) ∧ w.cell? ⟨b, off + 4, none⟩ = some (.pointer q4) ∧ w.cell? ⟨b, off + 5, none⟩ = some (.pointer q5) ∧ w.cell? ⟨b, off + 6, none⟩ = some (.pointer q6) ∧ w.cell? ⟨b, off + 7, none⟩ = some (.pointer q7) ∧ w.cell? ⟨b, off + 8, none⟩ = some (.pointer q8) ∧ w.cell? ⟨b, off + 9, none⟩ = some (.pointer q9) ∧ bad = lacks q0 q1 q2 q3 q4 q5 q6 q7 q8

theorem PfIs.later {w w' : World} {p : Option Addr} (h : PfIs w p) (hb : Below w.heap.size w w') : PfIs w' p := by
  rcases h with h | ⟨b, off, f, a, n, c, h1, h2, h3, h4⟩
  · exact .inl h
  · exact .inr ⟨b, off, f, a, n, c, h1, Nat.lt_of_lt_of_le h2 hb.size, by rw [hb.cell (p := ⟨b, off, none⟩) h2]; exact h3, by rw [hb.cell (p := ⟨b, off + 1, none⟩) h2]; exact h4⟩

theorem LimIs.later {w w' : World} {p : Option Addr} {bad : Bool} (h : LimIs w p bad) (hb : Below w.heap.size w w') : LimIs w' p bad := by
  rcases h with h | ⟨b, off, q0, q1, q2, q3, q4, q5, q6, q7, q8, q9, h1, h2, c0, c1, c2, c3, c4, c5, c6, c7, c8, c9, h4⟩
  · exact .inl h
  · exact .inr ⟨b, off, q0, q1, q2, q3, q4, q5, q6, q7, q8, q9, h1, Nat.lt_of_lt_of_le h2 hb.size, by rw [hb.cell (p := ⟨b, off, none⟩) h2]; exact c0, by rw [hb.cell (p := ⟨b, off + 1, none⟩) h2]; exact c1, by rw [hb.cell (p := ⟨b, off + 2, none⟩) h2]; exact c2, by rw [hb.cell (p := ⟨b, off + 3, none⟩) h2]; exact c3, by rw [hb.cell (p := ⟨b, off + 4, none⟩) h2]; exact c4, by rw [hb.cell (p := ⟨b, off + 5, none⟩) h2]; exact c5, by rw [hb.cell (p := ⟨b, off + 6, none⟩) h2]; exact c6, by rw [hb.cell (p := ⟨b, off + 7, none⟩) h2]; exact c7, by rw [hb.cell (p := ⟨b, off + 8, none⟩) h2]; exact c8, by rw [hb.cell (p := ⟨b, off + 9, none⟩) h2]; exact c9, h4⟩

theorem present_of (q0 q1 q2 q3 q4 q5 q6 q7 q8 q9 : Option Addr) (w : World) : Hid (∀ w1, Below (w.heap.size + 1) (w.alloc (.cells #[.pointer q0, .pointer q1, .pointer q2, .pointer q3, .pointer q4, .pointer q5, .pointer q6, .pointer q7, .pointer q8, .pointer q9] 59)) w1 →
    Calls Try.prog 17 #[.pointer (some ⟨w.heap.size, 0, none⟩)] w1 fun e w' => (∃ v, e = .returned v ∧ IsErr v (lacks q0 q1 q2 q3 q4 q5 q6 q7 q8)) ∧ Below w1.heap.size w1 w') := by
  intro w1 hb
  apply present_any q0 q1 q2 q3 q4 q5 q6 q7 q8 w.heap.size w1
  all_goals (rw [hb.cell (Nat.lt_succ_self _)]; simp [go_sem])

theorem isErr_neq {v : Value} {bad : Bool} (h : IsErr v bad) : v = .nilIface ∧ bad = false ∨ (∃ t x, v = .iface t x) ∧ bad = true := by
  cases bad with
  | true => exact .inr ⟨h, rfl⟩
  | false => exact .inl ⟨h, rfl⟩

end Go.Proofs.Qxb6616741a
