/- THE WALKS of seat b6616741a: zzTermsRefused. -/
import Derived.Test.Qxb6616741aWc
namespace Go.Proofs.Qxb6616741a
open Go.RowKit
attribute [local go_sem ↓] Go.wp_at_zero Go.wp_at_succ

theorem ret_bool {a b : Bool} (h : a = b) : Ending.returned (.bool a) = .returned (.bool b) := by rw [h]

set_option maxRecDepth 100000 in
set_option maxHeartbeats 4000000 in
theorem refused_any (p0 p1 p2 p3 p4 p5 : Option Addr) (idb lim : Bool) (w : World) (hi : IdIs w p0 idb) (hp : PfIs w p4) (hl : LimIs w p5 lim) :
    Calls Try.prog 7 #[.pointer p0, .pointer p1, .pointer p2, .pointer p3, .pointer p4, .pointer p5] w fun e w' =>
      e = .returned (.bool (idb || ((p1.isNone || p3.isNone) || (p2.isNone || p4.isNone) || lim))) ∧ Below w.heap.size w w' := by
  have Hi := hide hi
  have Hp := hide hp
  have Hl := hide hl
  clear hi hp hl
  go_enter Try.func7, Try.ntmps7
  go_upto_if 18 with (go_at_call 9; refine (noFloor_any _).mono ?_; rintro e w' ⟨rfl, rfl⟩)
  go_cut [13] (fun pf w1 => ∃ p, pf = .pointer p ∧ p.isNone = p4.isNone ∧ Below w.heap.size w w1)
  case first => as_aux_lemma =>
    rcases Hp.out with h | ⟨b, off, f, a, n, c, h1, h2, h3, h4⟩
    · subst h
      go_wp2_with fail
      go_meet
      case rel => exact ⟨none, rfl, rfl, Below.refl _ _⟩
    · subst h1
      have n1 := World.new_ne w _ h3
      have n2 := World.new_ne w _ h4
      go_wp2_with fail
      go_region_held3 (fun w' => w'.cell? ⟨b, off, none⟩ = some (.pointer f) ∧ w'.cell? ⟨b, off + 1, none⟩ = some (.slice a n c)) (go_keep)
        ((go_at_call 10; refine (floor_any _ _ _ _ _).mono ?_; rintro e w' ⟨rfl, rfl⟩))
      go_wp2_with fail
      go_meet
      case rel => exact ⟨some _, rfl, rfl, ((Below.refl _ _).alloc (Nat.le_refl _) _).drew⟩
  case rest => as_aux_lemma =>
    obtain ⟨pf, rfl, hpf, hb1⟩ := hcut
    rename World => wa
    have Hpf := hide hpf
    have Hb1 := hide hb1
    have Hlc := hide (Hl.out.later hb1)
    clear hpf hb1 Hl Hp
    go_upto_if 30 with (go_at_call 11; refine (noLimits_any _).mono ?_; rintro e w' ⟨rfl, rfl⟩)
    go_cut [14] (fun lf w2 => ∃ p, lf = .pointer p ∧ Below wa.heap.size wa w2 ∧ (∀ w1, Below w2.heap.size w2 w1 → Calls Try.prog 17 #[.pointer p] w1 fun e w' => (∃ v, e = .returned v ∧ IsErr v lim) ∧ Below w1.heap.size w1 w'))
    case first => as_aux_lemma =>
      rcases Hlc.out with ⟨h1, h2⟩ | ⟨b, off, q0, q1, q2, q3, q4, q5, q6, q7, q8, q9, h1, h2, c0, c1, c2, c3, c4, c5, c6, c7, c8, c9, hlk⟩
      · subst h1
        subst h2
        go_wp2_with fail
        go_meet
        case rel => exact ⟨none, rfl, Below.refl _ _, fun w1 _ => present_nil w1⟩
      · subst h1
        have Hlk := hide hlk
        clear hlk
        have n0 := World.new_ne wa _ c0
        go_wp2_with fail
        go_region_held3 (fun w' => w'.cell? ⟨b, off, none⟩ = some (.pointer q0) ∧ w'.cell? ⟨b, off + 1, none⟩ = some (.pointer q1) ∧ w'.cell? ⟨b, off + 2, none⟩ = some (.pointer q2) ∧ w'.cell? ⟨b, off + 3, none⟩ = some (.pointer q3) ∧ w'.cell? ⟨b, off + 4, none⟩ = some (.pointer q4) ∧ w'.cell? ⟨b, off + 5, none⟩ = some (.pointer q5) ∧ w'.cell? ⟨b, off + 6, none⟩ = some (.pointer q6) ∧ w'.cell? ⟨b, off + 7, none⟩ = some (.pointer q7) ∧ w'.cell? ⟨b, off + 8, none⟩ = some (.pointer q8) ∧ w'.cell? ⟨b, off + 9, none⟩ = some (.pointer q9)) (go_keep)
          ((go_at_call 12; refine (limits_any _ _ _ _ _ _ _ _ _ _ _).mono ?_; rintro e w' ⟨rfl, rfl⟩))
        go_wp2_with fail
        go_meet
        case rel =>
          refine ⟨some _, rfl, ((Below.refl _ _).alloc (Nat.le_refl _) _).drew, fun w1 hw1 => ?_⟩
          rw [Hlk.out]
          exact (present_of q0 q1 q2 q3 q4 q5 q6 q7 q8 q9 wa).out w1 ⟨hw1.os, hw1.tape, hw1.output, hw1.size, fun k hk => hw1.block k (by simpa using hk)⟩
    case rest => as_aux_lemma =>
      obtain ⟨lf, rfl, hb2, hlf⟩ := hcut
      rename World => wb
      have Hlf := hide hlf
      have Hb2 := hide hb2
      clear hlf hb2
      go_wp2_with fail
      refine (file_any p0 p1 p2 p3 pf lf _).mono ?_
      rintro e w3 ⟨rfl, hb3⟩
      have Hb3 := hide hb3
      clear hb3
      go_wp2_with fail
      refine (check_any p0 p1 p2 p3 pf lf idb lim _ ?_ ?_).mono ?_
      · exact (((Hi.out.later Hb1.out).later Hb2.out).later Hb3.out).later ((Below.refl _ _).alloc (Nat.le_refl _) _)
      · intro w1 hw1
        exact Hlf.out w1 (Hb3.out.trans ((((Below.refl _ _).alloc (Nat.le_refl _) _).trans (hw1.mono (by simp))).mono Hb3.out.size))
      rintro e w4 ⟨⟨v, rfl, hv⟩, hb4⟩
      rw [Hpf.out] at hv
      have hb5 : Hid (Below w.heap.size w w4) := hide (Hb1.out.trans (((Hb2.out.trans ((Hb3.out.trans ((((Below.refl _ _).alloc (Nat.le_refl _) _).trans (hb4.mono (by simp))).mono Hb3.out.size)).mono Hb2.out.size))).mono Hb1.out.size))
      clear hb4
      rcases isErr_neq hv with ⟨h1, h2⟩ | ⟨⟨t, x, h1⟩, h2⟩
      · have H2 := hide h2
        clear h2 hv
        subst h1
        go_wp2_with fail
        go_ret
        exact ⟨ret_bool H2.out.symm, hb5.out⟩
      · have H2 := hide h2
        clear h2 hv
        subst h1
        go_wp2_with fail
        go_ret
        exact ⟨ret_bool H2.out.symm, hb5.out⟩
end Go.Proofs.Qxb6616741a
