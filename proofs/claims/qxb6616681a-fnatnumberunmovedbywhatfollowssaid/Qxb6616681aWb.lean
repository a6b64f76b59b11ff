/- THE WALK of zzNumberStartsAt. -/
import Derived.Test.Qxb6616681aWa
namespace Go.Proofs.Qxb6616681a
open Go.RowKit

theorem beq_decide (a b : Int) : (a == b) = decide (a = b) := by
  by_cases h : a = b <;> simp [h]

/-- zzNumberStartsAt -/
theorem nsa_any (s : ByteArray) (o : Nat) (w : World) (hs : s.size ≤ 1048576) (ho : o ≤ s.size) :
    Calls Try.prog 8 #[.string s, .int .i64 (o : Int)] w fun e w' => e = .returned (.bool (atNum s o)) ∧ w' = w := by
  go_enter Try.func8, Try.ntmps8
  go_wp2
  go_loop [5, 6] (fun k i => ∃ j : Nat, o ≤ j ∧ j ≤ s.size ∧ k = .int .i64 (-1) ∧ i = .int .i64 (j : Int) ∧ (∀ t, o ≤ t → t < j → digB (pk s t) = false)) (fun _ i => s.size - (intOf i).toNat)
  case atStart => exact ⟨o, Nat.le_refl _, ho, rfl, rfl, fun t h1 h2 => by omega⟩
  case round =>
    obtain ⟨j, hj1, hj2, rfl, rfl, hno⟩ := hrel
    have HN := hide hno
    clear hno
    by_cases hlt : j < s.size
    · have hp := pk_lt s j hlt
      cases hd : digB (pk s j) with
      | false =>
        have hn : ¬ (48 ≤ (s[j].toNat : Int) ∧ (s[j].toNat : Int) ≤ 57) := by rw [← hp]; exact digB_false.1 hd
        have HD := hide hd
        clear hd hp
        by_cases b1 : 48 ≤ (s[j].toNat : Int)
        · have b2 : ¬ (s[j].toNat : Int) ≤ 57 := fun h => hn ⟨b1, h⟩
          clear hn
          go_wp2
          go_round
          case rel =>
            refine ⟨j + 1, by omega, by omega, by go_num, by go_num, fun t h1 h2 => ?_⟩
            by_cases e : t = j
            · rw [e]; exact HD.out
            · exact HN.out t h1 (by omega)
          case measure => simp [intOf]; omega
        · clear hn
          go_wp2
          go_round
          case rel =>
            refine ⟨j + 1, by omega, by omega, by go_num, by go_num, fun t h1 h2 => ?_⟩
            by_cases e : t = j
            · rw [e]; exact HD.out
            · exact HN.out t h1 (by omega)
          case measure => simp [intOf]; omega
      | true =>
        have hb := digB_true.1 hd
        rw [hp] at hb
        obtain ⟨b1, b2⟩ := hb
        have hfst := hide (atNum_first s o j hj1 HN.out hd)
        clear hd hp
        by_cases e : j = o
        · have e' : ((j : Int) == (o : Int)) = true := by simp [e]
          have hfin : Hid (atNum s o = true) := hide (by rw [hfst.out]; simp [e])
          clear e
          go_wp2
          go_ret
          exact ⟨ret_bool hfin.out.symm, rfl⟩
        · have e' : ((j : Int) == (o : Int)) = false := by simp; omega
          have hix := idx_at (s := s) (i := (o : Int)) (k := o) rfl (by omega)
          by_cases e1 : j = o + 1
          · have e1' : ((j : Int) == (o : Int) + 1) = true := by simp [e1]
            have hfin : Hid (atNum s o = decide (pk s o = 46)) := hide (by rw [hfst.out]; simp [e1])
            clear e e1
            go_wp2

            go_ret
            exact ⟨ret_bool (by rw [hfin.out]; exact beq_decide _ _), rfl⟩
          · have e1' : ((j : Int) == (o : Int) + 1) = false := by simp; omega
            have hfin : Hid (atNum s o = false) := hide (by rw [hfst.out]; simp [e1, e])
            clear e e1
            go_wp2
            go_ret
            exact ⟨ret_bool hfin.out.symm, rfl⟩
    · go_wp2
      go_ret
      exact ⟨ret_bool (atNum_none s o (fun t h1 h2 => HN.out t h1 (by omega))).symm, rfl⟩
end Go.Proofs.Qxb6616681a
