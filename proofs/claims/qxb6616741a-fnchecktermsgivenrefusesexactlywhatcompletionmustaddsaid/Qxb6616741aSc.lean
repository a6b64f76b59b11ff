/- zzBytes_ of the second law: it only reads, and answers. -/
import Derived.Test.Qxb6616741aSa
namespace Go.Proofs.Qxb6616741a
open Go.RowKit

set_option maxRecDepth 100000 in
set_option maxHeartbeats 8000000 in
theorem bytes8_any (p0 p1 p2 p3 p4 p5 : Option Addr) (w : World) (h0 : StrP w p0) (h1 : StrP w p1) (h2 : StrP w p2) (h3 : FloorP w p4) (h4 : LimitsP w p5) :
    Calls Try.prog 8 #[.pointer p0, .pointer p1, .pointer p2, .pointer p3, .pointer p4, .pointer p5] w fun e w' => AnsB e ∧ w' = w := by
  have H0 := hid h0
  have H1 := hid h1
  have H2 := hid h2
  have H3 := hid h3
  have H4 := hid h4
  clear h0 h1 h2 h3 h4
  go_enter Try.func8, Try.ntmps8
  go_upto_if 17 with fail
  go_cut [13] (fun n w' => (∃ z : Int, n = .int .i64 z) ∧ w = w')
  case first => as_aux_lemma =>
    rcases H0.out with rfl | ⟨bf, offf, s, rfl, hc⟩
    · go_wp2
      all_goals first | (go_ret; exact ⟨ansB _, rfl⟩) | (go_meet; case rel => exact ⟨⟨_, rfl⟩, rfl⟩)
    · go_wp2
      all_goals first | (go_ret; exact ⟨ansB _, rfl⟩) | (go_meet; case rel => exact ⟨⟨_, rfl⟩, rfl⟩)
  case rest => as_aux_lemma =>
  obtain ⟨⟨z0, rfl⟩, rfl⟩ := hcut
  go_upto_if 32 with fail
  go_cut [13] (fun n w' => (∃ z : Int, n = .int .i64 z) ∧ w = w')
  case first => as_aux_lemma =>
    rcases H1.out with rfl | ⟨bf, offf, s, rfl, hc⟩
    · go_wp2
      all_goals first | (go_ret; exact ⟨ansB _, rfl⟩) | (go_meet; case rel => exact ⟨⟨_, rfl⟩, rfl⟩)
    · go_wp2
      all_goals first | (go_ret; exact ⟨ansB _, rfl⟩) | (go_meet; case rel => exact ⟨⟨_, rfl⟩, rfl⟩)
  case rest => as_aux_lemma =>
  obtain ⟨⟨z1, rfl⟩, rfl⟩ := hcut
  go_upto_if 47 with fail
  go_cut [13] (fun n w' => (∃ z : Int, n = .int .i64 z) ∧ w = w')
  case first => as_aux_lemma =>
    rcases H2.out with rfl | ⟨bf, offf, s, rfl, hc⟩
    · go_wp2
      all_goals first | (go_ret; exact ⟨ansB _, rfl⟩) | (go_meet; case rel => exact ⟨⟨_, rfl⟩, rfl⟩)
    · go_wp2
      all_goals first | (go_ret; exact ⟨ansB _, rfl⟩) | (go_meet; case rel => exact ⟨⟨_, rfl⟩, rfl⟩)
  case rest => as_aux_lemma =>
  obtain ⟨⟨z2, rfl⟩, rfl⟩ := hcut
  go_upto_if 62 with fail
  go_cut [13] (fun n w' => (∃ z : Int, n = .int .i64 z) ∧ w = w')
  case first => as_aux_lemma =>
    rcases H3.out with rfl | ⟨b, off, f, r, rfl, hc0, hc1, hf, hr⟩
    · go_wp2
      all_goals first | (go_ret; exact ⟨ansB _, rfl⟩) | (go_meet; case rel => exact ⟨⟨_, rfl⟩, rfl⟩)
    · have Hf := hid hf
      have Hr := hid hr
      clear hf hr
      go_upto_if 67 with fail
      go_cut [13] (fun n w' => (∃ z : Int, n = .int .i64 z) ∧ w = w')
      case first => as_aux_lemma =>
        rcases Hf.out with rfl | ⟨bf, offf, s, rfl, hc⟩
        · go_wp2
          all_goals first | (go_ret; exact ⟨ansB _, rfl⟩) | (go_meet; case rel => exact ⟨⟨_, rfl⟩, rfl⟩)
        · go_wp2
          all_goals first | (go_ret; exact ⟨ansB _, rfl⟩) | (go_meet; case rel => exact ⟨⟨_, rfl⟩, rfl⟩)
      case rest => as_aux_lemma =>
      obtain ⟨⟨z3, rfl⟩, rfl⟩ := hcut
      rcases Hr.out with ⟨ra, rc, rfl⟩ | ⟨br, offr, nr, cr, rfl, hnr, hcr⟩
      · go_wp2_with fail
        · go_ret
          exact ⟨ansB _, rfl⟩
        go_loop [13, 14] (fun n i => (∃ z : Int, n = .int .i64 z) ∧ i = .int .i64 0) (fun _ _ => 0)
        case atStart => exact ⟨⟨_, rfl⟩, rfl⟩
        case round => as_aux_lemma =>
          obtain ⟨⟨z, rfl⟩, rfl⟩ := hrel
          go_wp2
          go_meet
          case rel => exact ⟨⟨_, rfl⟩, rfl⟩
      · have Hcr := hid hcr
        clear hcr
        go_wp2_with fail
        · go_ret
          exact ⟨ansB _, rfl⟩
        · go_ret
          exact ⟨ansB _, rfl⟩
        go_loop [13, 14] (fun n i => (∃ z : Int, n = .int .i64 z) ∧ ∃ k : Nat, k ≤ nr ∧ i = .int .i64 (k : Int)) (fun _ i => nr - (intOf i).toNat)
        case atStart => exact ⟨⟨_, rfl⟩, 0, Nat.zero_le _, rfl⟩
        case round => as_aux_lemma =>
          obtain ⟨⟨z, rfl⟩, k, hk, rfl⟩ := hrel
          by_cases hlt : k < nr
          · obtain ⟨x, hx, hsx⟩ := Hcr.out k hlt
            have Hsx := hid hsx
            clear hsx
            rcases Hsx.out with ⟨sa, sc, rfl⟩ | ⟨bs, offs, ns, cs, rfl, hns, hcs⟩
            · go_wp2
              · go_ret
                exact ⟨ansB _, rfl⟩
              go_loop [13, 15] (fun n i => (∃ z : Int, n = .int .i64 z) ∧ i = .int .i64 0) (fun _ _ => 0)
              case atStart => exact ⟨⟨_, rfl⟩, rfl⟩
              case round => as_aux_lemma =>
                obtain ⟨⟨z', rfl⟩, rfl⟩ := hrel
                go_wp2
                go_round
                case rel => exact ⟨⟨_, rfl⟩, k + 1, by omega, by go_num⟩
                case measure => simp [intOf]; omega
            · have Hcs := hid hcs
              clear hcs
              go_wp2
              · go_ret
                exact ⟨ansB _, rfl⟩
              · go_ret
                exact ⟨ansB _, rfl⟩
              go_loop [13, 15] (fun n i => (∃ z : Int, n = .int .i64 z) ∧ ∃ m : Nat, m ≤ ns ∧ i = .int .i64 (m : Int)) (fun _ i => ns - (intOf i).toNat)
              case atStart => exact ⟨⟨_, rfl⟩, 0, Nat.zero_le _, rfl⟩
              case round => as_aux_lemma =>
                obtain ⟨⟨z', rfl⟩, m, hm, rfl⟩ := hrel
                by_cases hlm : m < ns
                · obtain ⟨s, hs⟩ := Hcs.out m hlm
                  go_wp2
                  · go_ret
                    exact ⟨ansB _, rfl⟩
                  · go_ret
                    exact ⟨ansB _, rfl⟩
                  go_round
                  case rel => exact ⟨⟨_, rfl⟩, m + 1, by omega, by go_num⟩
                  case measure => simp [intOf]; omega
                · go_wp2
                  go_round
                  case rel => exact ⟨⟨_, rfl⟩, k + 1, by omega, by go_num⟩
                  case measure => simp [intOf]; omega
          · go_wp2
            go_meet
            case rel => exact ⟨⟨_, rfl⟩, rfl⟩
  case rest => as_aux_lemma =>
  obtain ⟨⟨z4, rfl⟩, rfl⟩ := hcut
  rcases H4.out with rfl | ⟨b, off, q0, q1, q2, q3, q4, q5, q6, q7, q8, q9, rfl, c0, c1, c2, c3, c4, c5, c6, c7, c8, c9, s4, s5, s6⟩
  · go_wp2
    go_ret
    exact ⟨ansB _, rfl⟩
  have S4 := hid s4
  have S5 := hid s5
  have S6 := hid s6
  clear s4 s5 s6 c0 c1 c2 c3 c7 c8 c9
  go_upto_if 177 with fail
  go_cut [13] (fun n w' => (∃ z : Int, n = .int .i64 z) ∧ w = w')
  case first => as_aux_lemma =>
    rcases S4.out with rfl | ⟨bf, offf, s, rfl, hc⟩
    · go_wp2
      all_goals first | (go_ret; exact ⟨ansB _, rfl⟩) | (go_meet; case rel => exact ⟨⟨_, rfl⟩, rfl⟩)
    · go_wp2
      all_goals first | (go_ret; exact ⟨ansB _, rfl⟩) | (go_meet; case rel => exact ⟨⟨_, rfl⟩, rfl⟩)
  case rest => as_aux_lemma =>
  obtain ⟨⟨z5, rfl⟩, rfl⟩ := hcut
  go_upto_if 201 with fail
  go_cut [13] (fun n w' => (∃ z : Int, n = .int .i64 z) ∧ w = w')
  case first => as_aux_lemma =>
    rcases S5.out with rfl | ⟨bf, offf, s, rfl, hc⟩
    · go_wp2
      all_goals first | (go_ret; exact ⟨ansB _, rfl⟩) | (go_meet; case rel => exact ⟨⟨_, rfl⟩, rfl⟩)
    · go_wp2
      all_goals first | (go_ret; exact ⟨ansB _, rfl⟩) | (go_meet; case rel => exact ⟨⟨_, rfl⟩, rfl⟩)
  case rest => as_aux_lemma =>
  obtain ⟨⟨z6, rfl⟩, rfl⟩ := hcut
  go_upto_if 225 with fail
  go_cut [13] (fun n w' => (∃ z : Int, n = .int .i64 z) ∧ w = w')
  case first => as_aux_lemma =>
    rcases S6.out with rfl | ⟨bf, offf, s, rfl, hc⟩
    · go_wp2
      all_goals first | (go_ret; exact ⟨ansB _, rfl⟩) | (go_meet; case rel => exact ⟨⟨_, rfl⟩, rfl⟩)
    · go_wp2
      all_goals first | (go_ret; exact ⟨ansB _, rfl⟩) | (go_meet; case rel => exact ⟨⟨_, rfl⟩, rfl⟩)
  case rest => as_aux_lemma =>
  obtain ⟨⟨z7, rfl⟩, rfl⟩ := hcut
  go_wp2
  all_goals
    go_ret
    exact ⟨ansB _, rfl⟩
end Go.Proofs.Qxb6616741a
