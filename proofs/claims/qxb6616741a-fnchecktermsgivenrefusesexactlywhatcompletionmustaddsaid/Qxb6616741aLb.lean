/- THE SECOND LAW's walk. -/
import Derived.Test.Qxb6616741aLa
namespace Go.Proofs.Qxb6616741a
open Go.RowKit

/-- what the walk of the second law needs of zzBytes_ (proved in Sc) -/
def Bytes8 : Prop := ∀ (p0 p1 p2 p3 p4 p5 : Option Addr) (w : World), StrP w p0 → StrP w p1 → StrP w p2 → FloorP w p4 → LimitsP w p5 →
    Calls Try.prog 8 #[.pointer p0, .pointer p1, .pointer p2, .pointer p3, .pointer p4, .pointer p5] w fun e w' => AnsB e ∧ w' = w

theorem refB_done {ib : Bool} {p1 p2 p3 p4 : Option Addr} {lm : Bool} (hi : ib = false) (h1 : p1.isNone = false) (h2 : p2.isNone = false) (h3 : p3.isNone = false) (h4 : p4.isNone = false) (hl : lm = false) : refB ib p1 p2 p3 p4 lm = false := by
  simp [refB, hi, h1, h2, h3, h4, hl]

theorem lacks_done {r0 r1 r2 r3 r4 r5 r6 r7 r8 : Option Addr} (h0 : r0.isNone = false) (h1 : r1.isNone = false) (h2 : r2.isNone = false) (h3 : r3.isNone = false) (h4 : r4.isNone = false) (h5 : r5.isNone = false) (h6 : r6.isNone = false) (h7 : r7.isNone = false) (h8 : r8.isNone = false) : lacks r0 r1 r2 r3 r4 r5 r6 r7 r8 = false := by
  simp [lacks, h0, h1, h2, h3, h4, h5, h6, h7, h8]

theorem added_is {idb n1 n2 n3 n4 n5 lk a1 a2 a3 a4 a5 x0 x1 x2 x3 x4 x5 x6 x7 x8 b0 b1 b2 b3 b4 b5 b6 b7 b8 : Bool} (e1 : a1 = (idb || n1)) (e2 : a2 = (a1 || n2)) (e3 : a3 = (a2 || n3)) (e4 : a4 = (a3 || n4)) (e5 : a5 = (a4 || n5)) (hn : n5 = true → lk = true)
    (f0 : b0 = (a5 || x0)) (f1 : b1 = (b0 || x1)) (f2 : b2 = (b1 || x2)) (f3 : b3 = (b2 || x3)) (f4 : b4 = (b3 || x4)) (f5 : b5 = (b4 || x5)) (f6 : b6 = (b5 || x6)) (f7 : b7 = (b6 || x7)) (f8 : b8 = (b7 || x8)) (hlk : lk = (x0 || x1 || x2 || x3 || x4 || x5 || x6 || x7 || x8)) : (idb || ((n1 || n3) || (n2 || n4) || lk)) = b8 := by
  subst e1 e2 e3 e4 e5 f0 f1 f2 f3 f4 f5 f6 f7 f8
  cases idb
  · cases n1
    · cases n2
      · cases n3
        · cases n4
          · cases n5
            · simp [hlk]
            · simp [hn rfl]
          · simp
        · simp
      · simp
    · simp
  · simp

set_option maxRecDepth 100000 in
set_option maxHeartbeats 8000000 in
theorem law2_any (hB : Bytes8) (p0 p1 p2 p3 p4 p5 : Option Addr) (w : World) (h0 : StrP w p0) (h1 : StrP w p1) (h2 : StrP w p2) (h3 : FloorP w p4) (h4 : LimitsP w p5) :
    Calls Try.prog 4 #[.pointer p0, .pointer p1, .pointer p2, .pointer p3, .pointer p4, .pointer p5] w fun e w' => e = .returned (.bool true) ∧ Below w.heap.size w w' := by
  obtain ⟨idb, hi⟩ := IdIs.of h0
  have hp := PfIs.of h3
  obtain ⟨lim, hl⟩ := LimIs.of h4
  have K5 := hide (hB p0 p1 p2 p3 p4 p5 w h0 h1 h2 h3 h4)
  have K6 := hide (tooBig_any p0 p1 p2 p4 p5 w h0 h1 h2 h3 h4)
  have Hi := hide hi
  have Hp := hide hp
  have Hl := hide hl
  clear hB h0 h1 h2 h3 h4 hi hp hl
  go_enter Try.func4, Try.ntmps4
  go_wp2_with fail
  refine K5.out.mono ?_
  rintro e w' ⟨⟨b5, rfl⟩, rfl⟩
  cases b5 with
  | false =>
    go_wp2
    go_ret
    exact ⟨rfl, Below.refl _ _⟩
  | true =>
  go_wp2_with fail
  refine K6.out.mono ?_
  rintro e w' ⟨⟨b6, rfl⟩, rfl⟩
  cases b6 with
  | true =>
    go_wp2
    go_ret
    exact ⟨rfl, Below.refl _ _⟩
  | false =>
  rename World => w
  clear K5 K6
  have b4 : Below w.heap.size w ((((w.alloc (.cells #[.string ⟨#[77, 65, 83, 45, 50, 48, 50, 49, 45, 65]⟩] 9)).alloc (.cells #[.string ⟨#[49, 46, 48, 48]⟩] 9)).alloc (.cells #[.int .i64 1] 2)).alloc (.cells #[.int .i64 12] 3)) :=
    ((((Below.refl _ _).alloc (Nat.le_refl _) _).alloc (by simp) _).alloc (by simp; omega) _).alloc (by simp; omega) _
  have i4 : IdIs ((((w.alloc (.cells #[.string ⟨#[77, 65, 83, 45, 50, 48, 50, 49, 45, 65]⟩] 9)).alloc (.cells #[.string ⟨#[49, 46, 48, 48]⟩] 9)).alloc (.cells #[.int .i64 1] 2)).alloc (.cells #[.int .i64 12] 3)) (some ⟨w.heap.size, 0, none⟩) false :=
    .inr ⟨w.heap.size, 0, ⟨#[77, 65, 83, 45, 50, 48, 50, 49, 45, 65]⟩, rfl, by simp; omega, by simp [go_sem], by rw [ByteArray.toList_eq]; rfl⟩
  go_upto_region 11 with fail
  generalize hW : (((w.alloc (.cells #[.string ⟨#[77, 65, 83, 45, 50, 48, 50, 49, 45, 65]⟩] 9)).alloc (.cells #[.string ⟨#[49, 46, 48, 48]⟩] 9)).alloc (.cells #[.int .i64 1] 2)).alloc (.cells #[.int .i64 12] 3) = W at b4 i4 ⊢
  clear hW
  have I4 := hide i4
  have B4 := hide b4
  have Hi4 := hide (Hi.out.later b4)
  have Hp4 := hide (Hp.out.later b4)
  have Hl4 := hide (Hl.out.later b4)
  clear i4 b4
  go_cut [48] (fun t w' => t = .bool idb ∧ W = w')
  case first => as_aux_lemma =>
    rcases Hi4.out with ⟨hn, hn'⟩ | ⟨b, off, s, hn, hlt, hc, hn'⟩
    · subst hn
      subst hn'
      go_wp2
      go_meet
      case rel => exact ⟨rfl, rfl⟩
    · subst hn
      cases hs : s.toList.isEmpty with
      | false =>
        rw [hs] at hn'
        subst hn'
        go_wp2
        go_meet
        case rel => exact ⟨rfl, rfl⟩
      | true =>
        rw [hs] at hn'
        subst hn'
        go_wp2
        go_meet
        case rel => exact ⟨rfl, rfl⟩
  case rest => as_aux_lemma =>
  obtain ⟨rfl, rfl⟩ := hcut
  go_upto_if 48 with fail
  go_cut [17, 18] (fun a v w' => a = .bool idb ∧ W = w' ∧ ∃ c0, v = .pointer c0 ∧ IdIs W c0 false)
  case first => as_aux_lemma =>
    cases idb with
    | true =>
      go_wp2
      go_meet
      case rel => exact ⟨rfl, rfl, _, rfl, I4.out⟩
    | false =>
      go_wp2
      go_meet
      case rel => exact ⟨rfl, rfl, _, rfl, Hi4.out⟩
  case rest => as_aux_lemma =>
  obtain ⟨rfl, rfl, c0, rfl, hc0⟩ := hcut
  have Hc0 := hide hc0
  clear hc0
  go_upto_if 51 with fail
  go_cut [17, 19] (fun a v w' => ∃ x, a = .bool x ∧ x = (idb || p1.isNone) ∧ W = w' ∧ ∃ c, v = .pointer c ∧ c.isNone = false)
  case first => as_aux_lemma =>
    rcases p1 with _ | p1a
    · go_wp2
      go_meet
      case rel => exact ⟨true, rfl, by simp, rfl, _, rfl, rfl⟩
    · go_wp2
      go_meet
      case rel => exact ⟨idb, rfl, by simp, rfl, _, rfl, rfl⟩
  case rest => as_aux_lemma =>
  obtain ⟨a1, rfl, ea1, rfl, c1, rfl, hc1⟩ := hcut
  have Ea1 := hide ea1
  have Hc1 := hide hc1
  clear ea1 hc1
  go_upto_if 54 with fail
  go_cut [17, 20] (fun a v w' => ∃ x, a = .bool x ∧ x = (a1 || p2.isNone) ∧ W = w' ∧ ∃ c, v = .pointer c ∧ c.isNone = false)
  case first => as_aux_lemma =>
    rcases p2 with _ | p2a
    · go_wp2
      go_meet
      case rel => exact ⟨true, rfl, by simp, rfl, _, rfl, rfl⟩
    · go_wp2
      go_meet
      case rel => exact ⟨a1, rfl, by simp, rfl, _, rfl, rfl⟩
  case rest => as_aux_lemma =>
  obtain ⟨a2, rfl, ea2, rfl, c2, rfl, hc2⟩ := hcut
  have Ea2 := hide ea2
  have Hc2 := hide hc2
  clear ea2 hc2
  go_upto_if 57 with fail
  go_cut [17, 21] (fun a v w' => ∃ x, a = .bool x ∧ x = (a2 || p3.isNone) ∧ W = w' ∧ ∃ c, v = .pointer c ∧ c.isNone = false)
  case first => as_aux_lemma =>
    rcases p3 with _ | p3a
    · go_wp2
      go_meet
      case rel => exact ⟨true, rfl, by simp, rfl, _, rfl, rfl⟩
    · go_wp2
      go_meet
      case rel => exact ⟨a2, rfl, by simp, rfl, _, rfl, rfl⟩
  case rest => as_aux_lemma =>
  obtain ⟨a3, rfl, ea3, rfl, c3, rfl, hc3⟩ := hcut
  have Ea3 := hide ea3
  have Hc3 := hide hc3
  clear ea3 hc3
  go_upto_if 60 with fail
  go_cut [17, 22] (fun a v w' => ∃ x, a = .bool x ∧ x = (a3 || p4.isNone) ∧ Below W.heap.size W w' ∧ ∃ c, v = .pointer c ∧ c.isNone = false ∧ PfIs w' c)
  case first => as_aux_lemma =>
    rcases p4 with _ | p4a
    · go_wp2
      go_meet
      case rel => exact ⟨true, rfl, by simp, (Below.refl _ _).alloc (Nat.le_refl _) _, _, rfl, rfl, .inr ⟨W.heap.size, 0, none, none, 0, 0, rfl, by simp, by simp [go_sem], by simp [go_sem]⟩⟩
    · go_wp2
      go_meet
      case rel => exact ⟨a3, rfl, by simp, Below.refl _ _, _, rfl, rfl, Hp4.out⟩
  case rest => as_aux_lemma =>
  obtain ⟨a4, rfl, ea4, hb5, c4, rfl, hc4, kp5⟩ := hcut
  rename World => V
  have Ea4 := hide ea4
  have Hc4 := hide hc4
  have Kp5 := hide kp5
  have B5 := hide hb5
  have Hl5 := hide (Hl4.out.later hb5)
  clear ea4 hc4 kp5 hb5
  go_upto_if 64 with fail
  go_cut [17] (fun a w' => ∃ x q0 q1 q2 q3 q4 q5 q6 q7 q8 q9, a = .bool x ∧ x = (a4 || p5.isNone) ∧ w' = V.alloc (.cells #[.pointer q0, .pointer q1, .pointer q2, .pointer q3, .pointer q4, .pointer q5, .pointer q6, .pointer q7, .pointer q8, .pointer q9] 30) ∧ lim = lacks q0 q1 q2 q3 q4 q5 q6 q7 q8 ∧ (p5.isNone = true → lim = true))
  case first => as_aux_lemma =>
    rcases Hl5.out with ⟨hn, hn'⟩ | ⟨b, off, q0, q1, q2, q3, q4, q5, q6, q7, q8, q9, hn, hlt, k0, k1, k2, k3, k4, k5, k6, k7, k8, k9, hlk⟩
    · subst hn
      subst hn'
      go_wp2
      go_meet
      case rel => exact ⟨true, none, none, none, none, none, none, none, none, none, none, rfl, by simp, rfl, rfl, by simp⟩
    · subst hn
      have Hlk := hide hlk
      clear hlk
      go_wp2
      go_meet
      case rel => exact ⟨a4, q0, q1, q2, q3, q4, q5, q6, q7, q8, q9, rfl, by simp, rfl, Hlk.out, fun h => by cases h⟩
  case rest => as_aux_lemma =>
  obtain ⟨a5, q0, q1, q2, q3, q4, q5, q6, q7, q8, q9, rfl, ea5, hw', hlk, hn5⟩ := hcut
  subst hw'
  have Ea5 := hide ea5
  have Hlk := hide hlk
  have Hn5 := hide hn5
  clear ea5 hlk hn5
  go_upto_if 70 with fail
  go_cut [17] (fun a w' => ∃ x r, a = .bool x ∧ x = (a5 || q0.isNone) ∧ r.isNone = false ∧ w' = V.alloc (.cells #[.pointer r, .pointer q1, .pointer q2, .pointer q3, .pointer q4, .pointer q5, .pointer q6, .pointer q7, .pointer q8, .pointer q9] 30))
  case first => as_aux_lemma =>
    rcases q0 with _ | q0a
    · go_wp2
      go_meet
      case rel => exact ⟨true, _, rfl, by simp, rfl, rfl⟩
    · go_wp2
      go_meet
      case rel => exact ⟨a5, _, rfl, by simp, rfl, rfl⟩
  case rest => as_aux_lemma =>
  obtain ⟨d0, r0, rfl, ed, hr, hw'⟩ := hcut
  subst hw'
  have Ed0 := hide ed
  have Hr0 := hide hr
  clear ed hr
  go_upto_if 74 with fail
  go_cut [17] (fun a w' => ∃ x r, a = .bool x ∧ x = (d0 || q1.isNone) ∧ r.isNone = false ∧ w' = V.alloc (.cells #[.pointer r0, .pointer r, .pointer q2, .pointer q3, .pointer q4, .pointer q5, .pointer q6, .pointer q7, .pointer q8, .pointer q9] 30))
  case first => as_aux_lemma =>
    rcases q1 with _ | q1a
    · go_wp2
      go_meet
      case rel => exact ⟨true, _, rfl, by simp, rfl, rfl⟩
    · go_wp2
      go_meet
      case rel => exact ⟨d0, _, rfl, by simp, rfl, rfl⟩
  case rest => as_aux_lemma =>
  obtain ⟨d1, r1, rfl, ed, hr, hw'⟩ := hcut
  subst hw'
  have Ed1 := hide ed
  have Hr1 := hide hr
  clear ed hr
  go_upto_if 78 with fail
  go_cut [17] (fun a w' => ∃ x r, a = .bool x ∧ x = (d1 || q2.isNone) ∧ r.isNone = false ∧ w' = V.alloc (.cells #[.pointer r0, .pointer r1, .pointer r, .pointer q3, .pointer q4, .pointer q5, .pointer q6, .pointer q7, .pointer q8, .pointer q9] 30))
  case first => as_aux_lemma =>
    rcases q2 with _ | q2a
    · go_wp2
      go_meet
      case rel => exact ⟨true, _, rfl, by simp, rfl, rfl⟩
    · go_wp2
      go_meet
      case rel => exact ⟨d1, _, rfl, by simp, rfl, rfl⟩
  case rest => as_aux_lemma =>
  obtain ⟨d2, r2, rfl, ed, hr, hw'⟩ := hcut
  subst hw'
  have Ed2 := hide ed
  have Hr2 := hide hr
  clear ed hr
  go_upto_if 82 with fail
  go_cut [17] (fun a w' => ∃ x r, a = .bool x ∧ x = (d2 || q3.isNone) ∧ r.isNone = false ∧ w' = V.alloc (.cells #[.pointer r0, .pointer r1, .pointer r2, .pointer r, .pointer q4, .pointer q5, .pointer q6, .pointer q7, .pointer q8, .pointer q9] 30))
  case first => as_aux_lemma =>
    rcases q3 with _ | q3a
    · go_wp2
      go_meet
      case rel => exact ⟨true, _, rfl, by simp, rfl, rfl⟩
    · go_wp2
      go_meet
      case rel => exact ⟨d2, _, rfl, by simp, rfl, rfl⟩
  case rest => as_aux_lemma =>
  obtain ⟨d3, r3, rfl, ed, hr, hw'⟩ := hcut
  subst hw'
  have Ed3 := hide ed
  have Hr3 := hide hr
  clear ed hr
  go_upto_if 86 with fail
  go_cut [17] (fun a w' => ∃ x r, a = .bool x ∧ x = (d3 || q4.isNone) ∧ r.isNone = false ∧ w' = V.alloc (.cells #[.pointer r0, .pointer r1, .pointer r2, .pointer r3, .pointer r, .pointer q5, .pointer q6, .pointer q7, .pointer q8, .pointer q9] 30))
  case first => as_aux_lemma =>
    rcases q4 with _ | q4a
    · go_wp2
      go_meet
      case rel => exact ⟨true, _, rfl, by simp, rfl, rfl⟩
    · go_wp2
      go_meet
      case rel => exact ⟨d3, _, rfl, by simp, rfl, rfl⟩
  case rest => as_aux_lemma =>
  obtain ⟨d4, r4, rfl, ed, hr, hw'⟩ := hcut
  subst hw'
  have Ed4 := hide ed
  have Hr4 := hide hr
  clear ed hr
  go_upto_if 90 with fail
  go_cut [17] (fun a w' => ∃ x r, a = .bool x ∧ x = (d4 || q5.isNone) ∧ r.isNone = false ∧ w' = V.alloc (.cells #[.pointer r0, .pointer r1, .pointer r2, .pointer r3, .pointer r4, .pointer r, .pointer q6, .pointer q7, .pointer q8, .pointer q9] 30))
  case first => as_aux_lemma =>
    rcases q5 with _ | q5a
    · go_wp2
      go_meet
      case rel => exact ⟨true, _, rfl, by simp, rfl, rfl⟩
    · go_wp2
      go_meet
      case rel => exact ⟨d4, _, rfl, by simp, rfl, rfl⟩
  case rest => as_aux_lemma =>
  obtain ⟨d5, r5, rfl, ed, hr, hw'⟩ := hcut
  subst hw'
  have Ed5 := hide ed
  have Hr5 := hide hr
  clear ed hr
  go_upto_if 94 with fail
  go_cut [17] (fun a w' => ∃ x r, a = .bool x ∧ x = (d5 || q6.isNone) ∧ r.isNone = false ∧ w' = V.alloc (.cells #[.pointer r0, .pointer r1, .pointer r2, .pointer r3, .pointer r4, .pointer r5, .pointer r, .pointer q7, .pointer q8, .pointer q9] 30))
  case first => as_aux_lemma =>
    rcases q6 with _ | q6a
    · go_wp2
      go_meet
      case rel => exact ⟨true, _, rfl, by simp, rfl, rfl⟩
    · go_wp2
      go_meet
      case rel => exact ⟨d5, _, rfl, by simp, rfl, rfl⟩
  case rest => as_aux_lemma =>
  obtain ⟨d6, r6, rfl, ed, hr, hw'⟩ := hcut
  subst hw'
  have Ed6 := hide ed
  have Hr6 := hide hr
  clear ed hr
  go_upto_if 98 with fail
  go_cut [17] (fun a w' => ∃ x r, a = .bool x ∧ x = (d6 || q7.isNone) ∧ r.isNone = false ∧ w' = V.alloc (.cells #[.pointer r0, .pointer r1, .pointer r2, .pointer r3, .pointer r4, .pointer r5, .pointer r6, .pointer r, .pointer q8, .pointer q9] 30))
  case first => as_aux_lemma =>
    rcases q7 with _ | q7a
    · go_wp2
      go_meet
      case rel => exact ⟨true, _, rfl, by simp, rfl, rfl⟩
    · go_wp2
      go_meet
      case rel => exact ⟨d6, _, rfl, by simp, rfl, rfl⟩
  case rest => as_aux_lemma =>
  obtain ⟨d7, r7, rfl, ed, hr, hw'⟩ := hcut
  subst hw'
  have Ed7 := hide ed
  have Hr7 := hide hr
  clear ed hr
  go_upto_if 102 with fail
  go_cut [17] (fun a w' => ∃ x r, a = .bool x ∧ x = (d7 || q8.isNone) ∧ r.isNone = false ∧ w' = V.alloc (.cells #[.pointer r0, .pointer r1, .pointer r2, .pointer r3, .pointer r4, .pointer r5, .pointer r6, .pointer r7, .pointer r, .pointer q9] 30))
  case first => as_aux_lemma =>
    rcases q8 with _ | q8a
    · go_wp2
      go_meet
      case rel => exact ⟨true, _, rfl, by simp, rfl, rfl⟩
    · go_wp2
      go_meet
      case rel => exact ⟨d7, _, rfl, by simp, rfl, rfl⟩
  case rest => as_aux_lemma =>
  obtain ⟨d8, r8, rfl, ed, hr, hw'⟩ := hcut
  subst hw'
  have Ed8 := hide ed
  have Hr8 := hide hr
  clear ed hr
  go_wp2_with fail
  have bV : Below V.heap.size V (V.alloc (.cells #[.pointer r0, .pointer r1, .pointer r2, .pointer r3, .pointer r4, .pointer r5, .pointer r6, .pointer r7, .pointer r8, .pointer q9] 30)) := (Below.refl _ _).alloc (Nat.le_refl _) _
  have lV : LimIs (V.alloc (.cells #[.pointer r0, .pointer r1, .pointer r2, .pointer r3, .pointer r4, .pointer r5, .pointer r6, .pointer r7, .pointer r8, .pointer q9] 30)) (some ⟨V.heap.size, 0, none⟩) (lacks r0 r1 r2 r3 r4 r5 r6 r7 r8) :=
    .inr ⟨V.heap.size, 0, r0, r1, r2, r3, r4, r5, r6, r7, r8, q9, rfl, by simp, by simp [go_sem], by simp [go_sem], by simp [go_sem], by simp [go_sem], by simp [go_sem], by simp [go_sem], by simp [go_sem], by simp [go_sem], by simp [go_sem], by simp [go_sem], rfl⟩
  generalize hU : V.alloc (.cells #[.pointer r0, .pointer r1, .pointer r2, .pointer r3, .pointer r4, .pointer r5, .pointer r6, .pointer r7, .pointer r8, .pointer q9] 30) = U at bV lV ⊢
  clear hU
  have BV := hide bV
  have LV := hide lV
  clear bV lV
  have bU : Below w.heap.size w U := B4.out.trans ((B5.out.trans (BV.out.mono B5.out.size)).mono B4.out.size)
  have BU := hide bU
  clear bU
  refine (refused_r p0 p1 p2 p3 p4 p5 idb lim _ (Hi.out.later BU.out) (Hp.out.later BU.out) (Hl.out.later BU.out)).mono ?_
  rintro e wb ⟨rfl, hb2⟩
  have Hb2 := hide hb2
  clear hb2
  go_wp2_with fail
  refine (refused_r c0 c1 c2 c3 c4 _ false (lacks r0 r1 r2 r3 r4 r5 r6 r7 r8) _ (((Hc0.out.later B5.out).later BV.out).later Hb2.out) ((Kp5.out.later BV.out).later Hb2.out) (LV.out.later Hb2.out)).mono ?_
  rintro e wd ⟨rfl, hb3⟩
  have Hb3 : Hid (Below w.heap.size w wd) := hide (BU.out.trans ((Hb2.out.trans (hb3.mono Hb2.out.size)).mono BU.out.size))
  clear hb3
  rw [refB_done (ib := false) (lm := lacks r0 r1 r2 r3 r4 r5 r6 r7 r8) rfl Hc1.out Hc2.out Hc3.out Hc4.out (lacks_done Hr0.out Hr1.out Hr2.out Hr3.out Hr4.out Hr5.out Hr6.out Hr7.out Hr8.out)]
  have hadd : refB idb p1 p2 p3 p4 lim = d8 := added_is Ea1.out Ea2.out Ea3.out Ea4.out Ea5.out Hn5.out Ed0.out Ed1.out Ed2.out Ed3.out Ed4.out Ed5.out Ed6.out Ed7.out Ed8.out Hlk.out
  rw [hadd]
  clear hadd
  have hr : (d8 == d8) = true := by simp
  go_wp2
  go_ret
  exact ⟨rfl, Hb3.out⟩
end Go.Proofs.Qxb6616741a
