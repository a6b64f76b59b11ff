/- THE FIRST LAW's walk. -/
import Derived.Test.Qxb6616741aWd
import Derived.Test.Qxb6616741aSa
namespace Go.Proofs.Qxb6616741a
open Go.RowKit

/-- what the walk of the first law needs of zzBytes_ (proved in Sb) -/
def Bytes5 : Prop := ∀ (p0 p1 p2 p3 p4 p5 : Option Addr) (drop : Int) (w : World), StrP w p0 → StrP w p1 → StrP w p2 → FloorP w p4 → LimitsP w p5 →
    Calls Try.prog 5 #[.pointer p0, .pointer p1, .pointer p2, .pointer p3, .pointer p4, .pointer p5, .int .i64 drop] w fun e w' => AnsB e ∧ w' = w

/-- Refused: as zzTermsRefused answers. -/
def refB (idb : Bool) (p1 p2 p3 p4 : Option Addr) (lim : Bool) : Bool := idb || ((p1.isNone || p3.isNone) || (p2.isNone || p4.isNone) || lim)

theorem IdIs.of {w : World} {p : Option Addr} (h : StrP w p) : ∃ b, IdIs w p b := by
  rcases h with h | ⟨b, off, s, h1, h2⟩
  · exact ⟨true, .inl ⟨h, rfl⟩⟩
  · exact ⟨_, .inr ⟨b, off, s, h1, World.block_lt_of_cell? w _ h2, h2, rfl⟩⟩
theorem PfIs.of {w : World} {p : Option Addr} (h : FloorP w p) : PfIs w p := by
  rcases h with h | ⟨b, off, f, r, h1, h2, h3, _, h4⟩
  · exact .inl h
  · rcases h4 with ⟨_, _, rfl⟩ | ⟨b', off', n, c, rfl, _⟩
    · exact .inr ⟨b, off, f, _, _, _, h1, World.block_lt_of_cell? w _ h2, h2, h3⟩
    · exact .inr ⟨b, off, f, _, _, _, h1, World.block_lt_of_cell? w _ h2, h2, h3⟩
theorem LimIs.of {w : World} {p : Option Addr} (h : LimitsP w p) : ∃ b, LimIs w p b := by
  rcases h with h | ⟨b, off, q0, q1, q2, q3, q4, q5, q6, q7, q8, q9, h1, c0, c1, c2, c3, c4, c5, c6, c7, c8, c9, _, _, _⟩
  · exact ⟨true, .inl ⟨h, rfl⟩⟩
  · exact ⟨_, .inr ⟨b, off, q0, q1, q2, q3, q4, q5, q6, q7, q8, q9, h1, World.block_lt_of_cell? w _ c0, c0, c1, c2, c3, c4, c5, c6, c7, c8, c9, rfl⟩⟩

theorem refused_r (p0 p1 p2 p3 p4 p5 : Option Addr) (idb lim : Bool) (w : World) (hi : IdIs w p0 idb) (hp : PfIs w p4) (hl : LimIs w p5 lim) :
    Calls Try.prog 7 #[.pointer p0, .pointer p1, .pointer p2, .pointer p3, .pointer p4, .pointer p5] w fun e w' =>
      e = .returned (.bool (refB idb p1 p2 p3 p4 lim)) ∧ Below w.heap.size w w' := refused_any p0 p1 p2 p3 p4 p5 idb lim w hi hp hl

/-- What holds where the ways through the law's 'if' meet again. -/
def CutR (w w' : World) (drop : Int) (r : Bool) (v0 v1 v2 v3 v4 v5 : Value) : Prop :=
  ∃ (g0 g1 g2 g3 g4 g5 : Option Addr) (ib lm : Bool), v0 = .pointer g0 ∧ v1 = .pointer g1 ∧ v2 = .pointer g2 ∧ v3 = .pointer g3 ∧ v4 = .pointer g4 ∧ v5 = .pointer g5 ∧
    Below w.heap.size w w' ∧ IdIs w' g0 ib ∧ PfIs w' g4 ∧ LimIs w' g5 lm ∧ (drop = 16 → refB ib g1 g2 g3 g4 lm = r) ∧ (drop ≠ 16 → refB ib g1 g2 g3 g4 lm = true)

theorem refB_p1 (ib : Bool) (p2 p3 p4 : Option Addr) (lm : Bool) : refB ib none p2 p3 p4 lm = true := by simp [refB]
theorem refB_p2 (ib : Bool) (p1 p3 p4 : Option Addr) (lm : Bool) : refB ib p1 none p3 p4 lm = true := by simp [refB]
theorem refB_p3 (ib : Bool) (p1 p2 p4 : Option Addr) (lm : Bool) : refB ib p1 p2 none p4 lm = true := by simp [refB]
theorem refB_p4 (ib : Bool) (p1 p2 p3 : Option Addr) (lm : Bool) : refB ib p1 p2 p3 none lm = true := by simp [refB]
theorem refB_id (p1 p2 p3 p4 : Option Addr) (lm : Bool) : refB true p1 p2 p3 p4 lm = true := by simp [refB]
theorem refB_lim (ib : Bool) (p1 p2 p3 p4 : Option Addr) : refB ib p1 p2 p3 p4 true = true := by simp [refB]

set_option maxRecDepth 100000 in
set_option maxHeartbeats 8000000 in
theorem law1_any (hB : Bytes5) (p0 p1 p2 p3 p4 p5 : Option Addr) (drop : Int) (w : World) (h0 : StrP w p0) (h1 : StrP w p1) (h2 : StrP w p2) (h3 : FloorP w p4) (h4 : LimitsP w p5) :
    Calls Try.prog 3 #[.pointer p0, .pointer p1, .pointer p2, .pointer p3, .pointer p4, .pointer p5, .int .i64 drop] w fun e w' => e = .returned (.bool true) ∧ Below w.heap.size w w' := by
  obtain ⟨idb, hi⟩ := IdIs.of h0
  have hp := PfIs.of h3
  obtain ⟨lim, hl⟩ := LimIs.of h4
  have K5 := hide (hB p0 p1 p2 p3 p4 p5 drop w h0 h1 h2 h3 h4)
  have K6 := hide (tooBig_any p0 p1 p2 p4 p5 w h0 h1 h2 h3 h4)
  have Hi := hide hi
  have Hp := hide hp
  have Hl := hide hl
  clear hB h0 h1 h2 h3 h4 hi hp hl
  go_enter Try.func3, Try.ntmps3
  go_wp2_with fail
  refine K5.out.mono ?_
  rintro e w' ⟨⟨b5, rfl⟩, rfl⟩
  cases b5 with
  | false =>
    go_wp2
    go_ret
    exact ⟨rfl, Below.refl _ _⟩
  | true =>
  go_wp2_with fail
  refine K6.out.mono ?_
  rintro e w' ⟨⟨b6, rfl⟩, rfl⟩
  cases b6 with
  | true =>
    go_wp2
    go_ret
    exact ⟨rfl, Below.refl _ _⟩
  | false =>
  rename World => w
  clear K5 K6
  by_cases d0 : drop < 0
  · go_wp2
    go_ret
    exact ⟨rfl, Below.refl _ _⟩
  by_cases d1 : 16 < drop
  · go_wp2
    go_ret
    exact ⟨rfl, Below.refl _ _⟩
  go_upto_if 53 with fail
  go_cut [16, 17, 18, 19, 20, 21] (fun v0 v1 v2 v3 v4 v5 w' => CutR w w' drop (refB idb p1 p2 p3 p4 lim) v0 v1 v2 v3 v4 v5)
  case first =>
    have b1 : Below w.heap.size w (w.alloc (.cells #[.string ⟨#[]⟩] 9)) := (Below.refl _ _).alloc (Nat.le_refl _) _
    have Hi1 := hide (Hi.out.later b1)
    have Hp1 := hide (Hp.out.later b1)
    have Hl1 := hide (Hl.out.later b1)
    have B1 := hide b1
    clear b1
    by_cases e0 : drop = 0
    · subst e0
      go_wp2
      go_meet
      case rel => exact ⟨none, p1, p2, p3, p4, p5, true, lim, rfl, rfl, rfl, rfl, rfl, rfl, B1.out, .inl ⟨rfl, rfl⟩, Hp1.out, Hl1.out, fun h => absurd h (by decide), fun _ => refB_id ..⟩
    by_cases e1 : drop = 1
    · subst e1
      go_wp2
      go_meet
      case rel => exact ⟨some ⟨w.heap.size, 0, none⟩, p1, p2, p3, p4, p5, true, lim, rfl, rfl, rfl, rfl, rfl, rfl, B1.out, .inr ⟨w.heap.size, 0, ⟨#[]⟩, rfl, by simp, by simp [go_sem], by rw [ByteArray.toList_eq]; rfl⟩, Hp1.out, Hl1.out, fun h => absurd h (by decide), fun _ => refB_id ..⟩
    by_cases e2 : drop = 2
    · subst e2
      go_wp2
      go_meet
      case rel => exact ⟨p0, none, p2, p3, p4, p5, idb, lim, rfl, rfl, rfl, rfl, rfl, rfl, B1.out, Hi1.out, Hp1.out, Hl1.out, fun h => absurd h (by decide), fun _ => refB_p1 ..⟩
    by_cases e3 : drop = 3
    · subst e3
      go_wp2
      go_meet
      case rel => exact ⟨p0, p1, none, p3, p4, p5, idb, lim, rfl, rfl, rfl, rfl, rfl, rfl, B1.out, Hi1.out, Hp1.out, Hl1.out, fun h => absurd h (by decide), fun _ => refB_p2 ..⟩
    by_cases e4 : drop = 4
    · subst e4
      go_wp2
      go_meet
      case rel => exact ⟨p0, p1, p2, none, p4, p5, idb, lim, rfl, rfl, rfl, rfl, rfl, rfl, B1.out, Hi1.out, Hp1.out, Hl1.out, fun h => absurd h (by decide), fun _ => refB_p3 ..⟩
    by_cases e5 : drop = 5
    · subst e5
      go_wp2
      go_meet
      case rel => exact ⟨p0, p1, p2, p3, none, p5, idb, lim, rfl, rfl, rfl, rfl, rfl, rfl, B1.out, Hi1.out, .inl rfl, Hl1.out, fun h => absurd h (by decide), fun _ => refB_p4 ..⟩
    by_cases e6 : drop = 6
    · subst e6
      go_wp2
      go_meet
      case rel => exact ⟨p0, p1, p2, p3, p4, none, idb, true, rfl, rfl, rfl, rfl, rfl, rfl, B1.out, Hi1.out, Hp1.out, .inl ⟨rfl, rfl⟩, fun h => absurd h (by decide), fun _ => refB_lim ..⟩
    rcases Hl.out with ⟨hn, hn'⟩ | ⟨b, off, q0, q1, q2, q3, q4, q5, q6, q7, q8, q9, hn, hlt, c0, c1, c2, c3, c4, c5, c6, c7, c8, c9, hlk⟩
    · subst hn
      subst hn'
      go_wp2
      go_meet
      case rel => exact ⟨p0, p1, p2, p3, p4, none, idb, true, rfl, rfl, rfl, rfl, rfl, rfl, B1.out, Hi1.out, Hp1.out, .inl ⟨rfl, rfl⟩, fun _ => rfl, fun _ => refB_lim ..⟩
    subst hn
    have Hlk := hide hlk
    clear hlk
    by_cases e7 : drop = 7
    · subst e7
      go_wp2
      go_meet
      case rel =>
        refine ⟨p0, p1, p2, p3, p4, some ⟨w.heap.size + 1, 0, none⟩, idb, lacks none q1 q2 q3 q4 q5 q6 q7 q8, rfl, rfl, rfl, rfl, rfl, rfl, B1.out.trans (((Below.refl _ _).alloc (Nat.le_refl _) _).mono (by simp)), Hi1.out.later ((Below.refl _ _).alloc (Nat.le_refl _) _), Hp1.out.later ((Below.refl _ _).alloc (Nat.le_refl _) _), ?_, ?_, ?_⟩
        · exact .inr ⟨w.heap.size + 1, 0, none, q1, q2, q3, q4, q5, q6, q7, q8, q9, rfl, by simp, by simp [go_sem], by simp [go_sem], by simp [go_sem], by simp [go_sem], by simp [go_sem], by simp [go_sem], by simp [go_sem], by simp [go_sem], by simp [go_sem], by simp [go_sem], rfl⟩
        · exact fun h => absurd h (by decide)
        · intro _; rw [show lacks none q1 q2 q3 q4 q5 q6 q7 q8 = true from by simp [lacks]]; exact refB_lim ..
    by_cases e8 : drop = 8
    · subst e8
      go_wp2
      go_meet
      case rel =>
        refine ⟨p0, p1, p2, p3, p4, some ⟨w.heap.size + 1, 0, none⟩, idb, lacks q0 none q2 q3 q4 q5 q6 q7 q8, rfl, rfl, rfl, rfl, rfl, rfl, B1.out.trans (((Below.refl _ _).alloc (Nat.le_refl _) _).mono (by simp)), Hi1.out.later ((Below.refl _ _).alloc (Nat.le_refl _) _), Hp1.out.later ((Below.refl _ _).alloc (Nat.le_refl _) _), ?_, ?_, ?_⟩
        · exact .inr ⟨w.heap.size + 1, 0, q0, none, q2, q3, q4, q5, q6, q7, q8, q9, rfl, by simp, by simp [go_sem], by simp [go_sem], by simp [go_sem], by simp [go_sem], by simp [go_sem], by simp [go_sem], by simp [go_sem], by simp [go_sem], by simp [go_sem], by simp [go_sem], rfl⟩
        · exact fun h => absurd h (by decide)
        · intro _; rw [show lacks q0 none q2 q3 q4 q5 q6 q7 q8 = true from by simp [lacks]]; exact refB_lim ..
    by_cases e9 : drop = 9
    · subst e9
      go_wp2
      go_meet
      case rel =>
        refine ⟨p0, p1, p2, p3, p4, some ⟨w.heap.size + 1, 0, none⟩, idb, lacks q0 q1 none q3 q4 q5 q6 q7 q8, rfl, rfl, rfl, rfl, rfl, rfl, B1.out.trans (((Below.refl _ _).alloc (Nat.le_refl _) _).mono (by simp)), Hi1.out.later ((Below.refl _ _).alloc (Nat.le_refl _) _), Hp1.out.later ((Below.refl _ _).alloc (Nat.le_refl _) _), ?_, ?_, ?_⟩
        · exact .inr ⟨w.heap.size + 1, 0, q0, q1, none, q3, q4, q5, q6, q7, q8, q9, rfl, by simp, by simp [go_sem], by simp [go_sem], by simp [go_sem], by simp [go_sem], by simp [go_sem], by simp [go_sem], by simp [go_sem], by simp [go_sem], by simp [go_sem], by simp [go_sem], rfl⟩
        · exact fun h => absurd h (by decide)
        · intro _; rw [show lacks q0 q1 none q3 q4 q5 q6 q7 q8 = true from by simp [lacks]]; exact refB_lim ..
    by_cases e10 : drop = 10
    · subst e10
      go_wp2
      go_meet
      case rel =>
        refine ⟨p0, p1, p2, p3, p4, some ⟨w.heap.size + 1, 0, none⟩, idb, lacks q0 q1 q2 none q4 q5 q6 q7 q8, rfl, rfl, rfl, rfl, rfl, rfl, B1.out.trans (((Below.refl _ _).alloc (Nat.le_refl _) _).mono (by simp)), Hi1.out.later ((Below.refl _ _).alloc (Nat.le_refl _) _), Hp1.out.later ((Below.refl _ _).alloc (Nat.le_refl _) _), ?_, ?_, ?_⟩
        · exact .inr ⟨w.heap.size + 1, 0, q0, q1, q2, none, q4, q5, q6, q7, q8, q9, rfl, by simp, by simp [go_sem], by simp [go_sem], by simp [go_sem], by simp [go_sem], by simp [go_sem], by simp [go_sem], by simp [go_sem], by simp [go_sem], by simp [go_sem], by simp [go_sem], rfl⟩
        · exact fun h => absurd h (by decide)
        · intro _; rw [show lacks q0 q1 q2 none q4 q5 q6 q7 q8 = true from by simp [lacks]]; exact refB_lim ..
    by_cases e11 : drop = 11
    · subst e11
      go_wp2
      go_meet
      case rel =>
        refine ⟨p0, p1, p2, p3, p4, some ⟨w.heap.size + 1, 0, none⟩, idb, lacks q0 q1 q2 q3 none q5 q6 q7 q8, rfl, rfl, rfl, rfl, rfl, rfl, B1.out.trans (((Below.refl _ _).alloc (Nat.le_refl _) _).mono (by simp)), Hi1.out.later ((Below.refl _ _).alloc (Nat.le_refl _) _), Hp1.out.later ((Below.refl _ _).alloc (Nat.le_refl _) _), ?_, ?_, ?_⟩
        · exact .inr ⟨w.heap.size + 1, 0, q0, q1, q2, q3, none, q5, q6, q7, q8, q9, rfl, by simp, by simp [go_sem], by simp [go_sem], by simp [go_sem], by simp [go_sem], by simp [go_sem], by simp [go_sem], by simp [go_sem], by simp [go_sem], by simp [go_sem], by simp [go_sem], rfl⟩
        · exact fun h => absurd h (by decide)
        · intro _; rw [show lacks q0 q1 q2 q3 none q5 q6 q7 q8 = true from by simp [lacks]]; exact refB_lim ..
    by_cases e12 : drop = 12
    · subst e12
      go_wp2
      go_meet
      case rel =>
        refine ⟨p0, p1, p2, p3, p4, some ⟨w.heap.size + 1, 0, none⟩, idb, lacks q0 q1 q2 q3 q4 none q6 q7 q8, rfl, rfl, rfl, rfl, rfl, rfl, B1.out.trans (((Below.refl _ _).alloc (Nat.le_refl _) _).mono (by simp)), Hi1.out.later ((Below.refl _ _).alloc (Nat.le_refl _) _), Hp1.out.later ((Below.refl _ _).alloc (Nat.le_refl _) _), ?_, ?_, ?_⟩
        · exact .inr ⟨w.heap.size + 1, 0, q0, q1, q2, q3, q4, none, q6, q7, q8, q9, rfl, by simp, by simp [go_sem], by simp [go_sem], by simp [go_sem], by simp [go_sem], by simp [go_sem], by simp [go_sem], by simp [go_sem], by simp [go_sem], by simp [go_sem], by simp [go_sem], rfl⟩
        · exact fun h => absurd h (by decide)
        · intro _; rw [show lacks q0 q1 q2 q3 q4 none q6 q7 q8 = true from by simp [lacks]]; exact refB_lim ..
    by_cases e13 : drop = 13
    · subst e13
      go_wp2
      go_meet
      case rel =>
        refine ⟨p0, p1, p2, p3, p4, some ⟨w.heap.size + 1, 0, none⟩, idb, lacks q0 q1 q2 q3 q4 q5 none q7 q8, rfl, rfl, rfl, rfl, rfl, rfl, B1.out.trans (((Below.refl _ _).alloc (Nat.le_refl _) _).mono (by simp)), Hi1.out.later ((Below.refl _ _).alloc (Nat.le_refl _) _), Hp1.out.later ((Below.refl _ _).alloc (Nat.le_refl _) _), ?_, ?_, ?_⟩
        · exact .inr ⟨w.heap.size + 1, 0, q0, q1, q2, q3, q4, q5, none, q7, q8, q9, rfl, by simp, by simp [go_sem], by simp [go_sem], by simp [go_sem], by simp [go_sem], by simp [go_sem], by simp [go_sem], by simp [go_sem], by simp [go_sem], by simp [go_sem], by simp [go_sem], rfl⟩
        · exact fun h => absurd h (by decide)
        · intro _; rw [show lacks q0 q1 q2 q3 q4 q5 none q7 q8 = true from by simp [lacks]]; exact refB_lim ..
    by_cases e14 : drop = 14
    · subst e14
      go_wp2
      go_meet
      case rel =>
        refine ⟨p0, p1, p2, p3, p4, some ⟨w.heap.size + 1, 0, none⟩, idb, lacks q0 q1 q2 q3 q4 q5 q6 none q8, rfl, rfl, rfl, rfl, rfl, rfl, B1.out.trans (((Below.refl _ _).alloc (Nat.le_refl _) _).mono (by simp)), Hi1.out.later ((Below.refl _ _).alloc (Nat.le_refl _) _), Hp1.out.later ((Below.refl _ _).alloc (Nat.le_refl _) _), ?_, ?_, ?_⟩
        · exact .inr ⟨w.heap.size + 1, 0, q0, q1, q2, q3, q4, q5, q6, none, q8, q9, rfl, by simp, by simp [go_sem], by simp [go_sem], by simp [go_sem], by simp [go_sem], by simp [go_sem], by simp [go_sem], by simp [go_sem], by simp [go_sem], by simp [go_sem], by simp [go_sem], rfl⟩
        · exact fun h => absurd h (by decide)
        · intro _; rw [show lacks q0 q1 q2 q3 q4 q5 q6 none q8 = true from by simp [lacks]]; exact refB_lim ..
    by_cases e15 : drop = 15
    · subst e15
      go_wp2
      go_meet
      case rel =>
        refine ⟨p0, p1, p2, p3, p4, some ⟨w.heap.size + 1, 0, none⟩, idb, lacks q0 q1 q2 q3 q4 q5 q6 q7 none, rfl, rfl, rfl, rfl, rfl, rfl, B1.out.trans (((Below.refl _ _).alloc (Nat.le_refl _) _).mono (by simp)), Hi1.out.later ((Below.refl _ _).alloc (Nat.le_refl _) _), Hp1.out.later ((Below.refl _ _).alloc (Nat.le_refl _) _), ?_, ?_, ?_⟩
        · exact .inr ⟨w.heap.size + 1, 0, q0, q1, q2, q3, q4, q5, q6, q7, none, q9, rfl, by simp, by simp [go_sem], by simp [go_sem], by simp [go_sem], by simp [go_sem], by simp [go_sem], by simp [go_sem], by simp [go_sem], by simp [go_sem], by simp [go_sem], by simp [go_sem], rfl⟩
        · exact fun h => absurd h (by decide)
        · intro _; rw [show lacks q0 q1 q2 q3 q4 q5 q6 q7 none = true from by simp [lacks]]; exact refB_lim ..
    by_cases e16 : drop = 16
    · subst e16
      go_wp2
      go_meet
      case rel =>
        refine ⟨p0, p1, p2, p3, p4, some ⟨w.heap.size + 1, 0, none⟩, idb, lacks q0 q1 q2 q3 q4 q5 q6 q7 q8, rfl, rfl, rfl, rfl, rfl, rfl, B1.out.trans (((Below.refl _ _).alloc (Nat.le_refl _) _).mono (by simp)), Hi1.out.later ((Below.refl _ _).alloc (Nat.le_refl _) _), Hp1.out.later ((Below.refl _ _).alloc (Nat.le_refl _) _), ?_, ?_, ?_⟩
        · exact .inr ⟨w.heap.size + 1, 0, q0, q1, q2, q3, q4, q5, q6, q7, q8, none, rfl, by simp, by simp [go_sem], by simp [go_sem], by simp [go_sem], by simp [go_sem], by simp [go_sem], by simp [go_sem], by simp [go_sem], by simp [go_sem], by simp [go_sem], by simp [go_sem], rfl⟩
        · intro _; rw [Hlk.out]
        · exact fun h => absurd rfl h
    exact absurd trivial (by omega)
  case rest =>
    obtain ⟨g0, g1, g2, g3, g4, g5, ib, lm, rfl, rfl, rfl, rfl, rfl, rfl, hb, ki, kp, kl, r16, rn⟩ := hcut
    rename World => wa
    have Ki := hide ki
    have Kp := hide kp
    have Kl := hide kl
    have Hb := hide hb
    have R16 := hide r16
    have Rn := hide rn
    clear hb ki kp kl r16 rn
    go_wp2_with fail
    refine (refused_r p0 p1 p2 p3 p4 p5 idb lim _ (Hi.out.later Hb.out) (Hp.out.later Hb.out) (Hl.out.later Hb.out)).mono ?_
    rintro e wb ⟨rfl, hb2⟩
    have Hb2 := hide hb2
    clear hb2
    go_wp2_with fail
    refine (refused_r g0 g1 g2 g3 g4 g5 ib lm _ (Ki.out.later Hb2.out) (Kp.out.later Hb2.out) (Kl.out.later Hb2.out)).mono ?_
    rintro e wd ⟨rfl, hb3⟩
    have Hb3 : Hid (Below w.heap.size w wd) := hide (Hb.out.trans ((Hb2.out.trans (hb3.mono Hb2.out.size)).mono Hb.out.size))
    clear hb3
    by_cases e16 : drop = 16
    · rw [R16.out e16]
      clear R16 Rn
      have e16' : (drop == 16) = true := by simp [e16]
      clear e16
      generalize refB idb p1 p2 p3 p4 lim = r
      have hr : (r == r) = true := by simp
      go_wp2
      go_ret
      exact ⟨rfl, Hb3.out⟩
    · rw [Rn.out e16]
      clear R16 Rn
      have e16' : (drop == 16) = false := by simp [e16]
      clear e16
      go_wp2
      go_ret
      exact ⟨rfl, Hb3.out⟩
end Go.Proofs.Qxb6616741a
