/- sameInts, sameGroups, validPlaces -/
import Derived.Test.Qxb6617641aWb
namespace Go.Proofs.Qxb6617641a
open Go.RowKit

theorem sameInts_any (va vb : Value) (n : Nat) (f : Nat → Int) (w : World) (ha : IntsV w va n f) (hb : IntsV w vb n f) (hn : n ≤ 1048576) :
    Calls Try.prog 10 #[va, vb] w fun e w' => e = .returned (.bool true) ∧ ∃ q, w' = w.drewN q := by
  by_cases h0 : n = 0
  · subst h0
    obtain ⟨a1, c1, rfl⟩ := ha.len
    obtain ⟨a2, c2, rfl⟩ := hb.len
    clear ha hb
    go_enter Try.func10, Try.ntmps10
    go_wp2
    go_loop [5] (fun i => i = .int .i64 0) (fun _ => 0)
    case atStart => rfl
    case round =>
      obtain rfl := hrel
      go_wp2
      go_ret
      exact ⟨rfl, 0, rfl⟩
  · rcases ha with ⟨_, h⟩ | ⟨_, _, _, h⟩ | ⟨_, b1, o1, c1, rfl, _, ka⟩
    · omega
    · omega
    rcases hb with ⟨_, h⟩ | ⟨_, _, _, h⟩ | ⟨_, b2, o2, c2, rfl, _, kb⟩
    · omega
    · omega
    have Ka := hid ka
    have Kb := hid kb
    clear ka kb
    have hne : ((n : Int) != (n : Int)) = false := by simp
    go_enter Try.func10, Try.ntmps10
    go_wp2
    go_loopw [5] (fun i wr => (∃ k : Nat, k ≤ n ∧ i = .int .i64 (k : Int)) ∧ ∃ q, wr = w.drewN q) (fun i _ => n - (intOf i).toNat)
    case atStart => exact ⟨⟨0, Nat.zero_le _, rfl⟩, 0, rfl⟩
    case round =>
      obtain ⟨⟨k, hk, rfl⟩, q, hq⟩ := hrel
      by_cases hlt : k < n
      · have d1 : wr.cell? ⟨b1, o1 + k, none⟩ = some (.int .i64 (f k)) := by rw [hq]; exact Ka.out k hlt
        have d2 : wr.cell? ⟨b2, o2 + k, none⟩ = some (.int .i64 (f k)) := by rw [hq]; exact Kb.out k hlt
        have hk1 : (k : Int) < (n : Int) := by omega
        have hff : (f k != f k) = false := by simp
        have Hq := hid hq
        clear hq
        go_wp2
        go_quiet (fail)
        go_wp2
        go_roundw
        case rel => exact ⟨⟨k + 1, by omega, by go_num⟩, q + nq, by rw [Hq.out]; exact World.drewN_drewN _ _ _⟩
        case measure => simp [intOf]; omega
      · have Hq := hid hq
        clear hq
        go_wp2
        go_ret
        exact ⟨rfl, q, Hq.out⟩

theorem IntsV.drewN {w : World} {v : Value} {n : Nat} {f : Nat → Int} (h : IntsV w v n f) (q : Nat) : IntsV (w.drewN q) v n f := h.later (B := w.heap.size) ⟨rfl, rfl, rfl, Nat.le_refl _, fun _ _ => rfl⟩ (Nat.le_refl _)

theorem sameGroups_any (va vb : Value) (n : Nat) (l : Nat → Nat) (f : Nat → Nat → Int) (w : World) (ha : GroupsV w va n l f) (hb : GroupsV w vb n l f) (hn : n ≤ 1048576) (hl : ∀ i, i < n → l i ≤ 1048576) :
    Calls Try.prog 12 #[va, vb] w fun e w' => e = .returned (.bool true) ∧ ∃ q, w' = w.drewN q := by
  have Hl := hid hl
  clear hl
  by_cases h0 : n = 0
  · subst h0
    obtain ⟨a1, c1, rfl⟩ := ha.len
    obtain ⟨a2, c2, rfl⟩ := hb.len
    clear ha hb
    go_enter Try.func12, Try.ntmps12
    go_wp2
    go_loop [5] (fun i => i = .int .i64 0) (fun _ => 0)
    case atStart => rfl
    case round =>
      obtain rfl := hrel
      go_wp2
      go_ret
      exact ⟨rfl, 0, rfl⟩
  · rcases ha with ⟨_, h⟩ | ⟨_, _, _, h⟩ | ⟨_, b1, o1, c1, rfl, _, ka⟩
    · omega
    · omega
    rcases hb with ⟨_, h⟩ | ⟨_, _, _, h⟩ | ⟨_, b2, o2, c2, rfl, _, kb⟩
    · omega
    · omega
    have Ka := hid ka
    have Kb := hid kb
    clear ka kb
    have hne : ((n : Int) != (n : Int)) = false := by simp
    go_enter Try.func12, Try.ntmps12
    go_wp2
    go_loopw [5] (fun i wr => (∃ k : Nat, k ≤ n ∧ i = .int .i64 (k : Int)) ∧ ∃ q, wr = w.drewN q) (fun i _ => n - (intOf i).toNat)
    case atStart => exact ⟨⟨0, Nat.zero_le _, rfl⟩, 0, rfl⟩
    case round =>
      obtain ⟨⟨k, hk, rfl⟩, q, hq⟩ := hrel
      by_cases hlt : k < n
      · obtain ⟨x1, k1, i1⟩ := Ka.out k hlt
        obtain ⟨x2, k2, i2⟩ := Kb.out k hlt
        have d1 : wr.cell? ⟨b1, o1 + k, none⟩ = some x1 := by rw [hq]; exact k1
        have d2 : wr.cell? ⟨b2, o2 + k, none⟩ = some x2 := by rw [hq]; exact k2
        have hk1 : (k : Int) < (n : Int) := by omega
        have I1 : Hid (IntsV wr x1 (l k) (f k)) := by rw [hq]; exact i1.drewN q
        have I2 : Hid (IntsV wr x2 (l k) (f k)) := by rw [hq]; exact i2.drewN q
        have Hq := hid hq
        clear hq i1 i2 k1 k2
        go_wp2
        go_quiet ((go_at_call 10; exact Calls.quiet_of (sameInts_any _ _ _ _ _ (I1.out.drewN _) (I2.out.drewN _) (Hl.out k hlt))))
        go_wp2
        go_roundw
        case rel => exact ⟨⟨k + 1, by omega, by go_num⟩, q + nq, by rw [Hq.out]; exact World.drewN_drewN _ _ _⟩
        case measure => simp [intOf]; omega
      · have Hq := hid hq
        clear hq
        go_wp2
        go_ret
        exact ⟨rfl, q, Hq.out⟩

/-- validPlaces of 0, 1, .., n - 1 -/
theorem valid_any (v : Value) (n : Nat) (w : World) (hv : IntsV w v n (fun i => (i : Int))) (hn : n ≤ 1048576) :
    Calls Try.prog 9 #[v, .int .i64 (n : Int)] w fun e w' => e = .returned (.bool true) ∧ ∃ q, w' = w.drewN q := by
  by_cases h0 : n = 0
  · subst h0
    obtain ⟨a1, c1, rfl⟩ := hv.len
    clear hv
    go_enter Try.func9, Try.ntmps9
    go_wp2
    go_loop [5] (fun i => i = .int .i64 0) (fun _ => 0)
    case atStart => rfl
    case round =>
      obtain rfl := hrel
      go_wp2
      go_ret
      exact ⟨rfl, 0, rfl⟩
  · rcases hv with ⟨_, h⟩ | ⟨_, _, _, h⟩ | ⟨_, b1, o1, c1, rfl, _, ka⟩
    · omega
    · omega
    have Ka := hid ka
    clear ka
    have hne : ((n : Int) != (n : Int)) = false := by simp
    go_enter Try.func9, Try.ntmps9
    go_wp2
    go_loopw [5] (fun i wr => (∃ k : Nat, k ≤ n ∧ i = .int .i64 (k : Int)) ∧ ∃ q, wr = w.drewN q) (fun i _ => n - (intOf i).toNat)
    case atStart => exact ⟨⟨0, Nat.zero_le _, rfl⟩, 0, rfl⟩
    case round =>
      obtain ⟨⟨k, hk, rfl⟩, q, hq⟩ := hrel
      by_cases hlt : k < n
      · have d1 : wr.cell? ⟨b1, o1 + k, none⟩ = some (.int .i64 (k : Int)) := by rw [hq]; exact Ka.out k hlt
        have hk1 : (k : Int) < (n : Int) := by omega
        have hk2 : ¬ (n : Int) ≤ (k : Int) := by omega
        have hk3 : ¬ (k : Int) < 0 := by omega
        by_cases hk0 : 0 < k
        · have d2 : wr.cell? ⟨b1, o1 + (k - 1), none⟩ = some (.int .i64 ((k - 1 : Nat) : Int)) := by rw [hq]; exact Ka.out (k - 1) (by omega)
          have hk4 : (0 : Int) < (k : Int) := by omega
          have Hq := hid hq
          clear hq
          go_wp2
          go_quiet (fail)
          go_wp2
          go_roundw
          case rel => exact ⟨⟨k + 1, by omega, by go_num⟩, q + nq, by rw [Hq.out]; exact World.drewN_drewN _ _ _⟩
          case measure => simp [intOf]; omega
        · have hk4 : decide ((0 : Int) < (k : Int)) = false := by simp; omega
          have Hq := hid hq
          clear hq
          go_wp2
          go_quiet (fail)
          go_wp2
          go_roundw
          case rel => exact ⟨⟨k + 1, by omega, by go_num⟩, q + nq, by rw [Hq.out]; exact World.drewN_drewN _ _ _⟩
          case measure => simp [intOf]; omega
      · have Hq := hid hq
        clear hq
        go_wp2
        go_ret
        exact ⟨rfl, q, Hq.out⟩
end Go.Proofs.Qxb6617641a
