/- THE WALKS of seat b6616681a, the callees. -/
import Derived.Test.Qxb6616681aRows
import Derived.Test.Qxb6616681aPlain
import Derived.WalkKit
import Derived.WalkSpells
import Derived.WalkLawsBesides
import Derived.RowKit3
import Derived.Deep.QuietTactic
import Derived.BigQuiet
namespace Go.Proofs.Qxb6616681a
open Go.RowKit

theorem ret_int {k : IntKind} {a b : Int} (h : a = b) : Ending.returned (.int k a) = .returned (.int k b) := by rw [h]
theorem ret_bool {a b : Bool} (h : a = b) : Ending.returned (.bool a) = .returned (.bool b) := by rw [h]

/-- isDigit -/
theorem isDigit_any (c : Int) (w : World) :
    Calls Try.prog 12 #[.int .u8 c] w fun e w' => e = .returned (.bool (digB c)) ∧ w' = w := by
  by_cases h1 : 48 ≤ c
  · by_cases h2 : c ≤ 57
    · go_enter Try.func12, Try.ntmps12
      go_wp2
      go_ret
      exact ⟨by simp [digB, h1, h2], rfl⟩
    · go_enter Try.func12, Try.ntmps12
      go_wp2
      go_ret
      exact ⟨by simp [digB, h1, h2], rfl⟩
  · go_enter Try.func12, Try.ntmps12
    go_wp2
    go_ret
    exact ⟨ret_bool (digB_false.2 (by omega)).symm, rfl⟩

/-- peek -/
theorem peek_any (s : ByteArray) (k b : Nat) (w : World) (_hs : s.size ≤ 1048576)
    (c0 : w.cell? ⟨b, 0, none⟩ = some (.string s)) (c1 : w.cell? ⟨b, 1, none⟩ = some (.int .i64 (k : Int))) :
    Calls Try.prog 11 #[.pointer (some ⟨b, 0, none⟩)] w fun e w' => e = .returned (.int .u8 (pk s k)) ∧ ∃ n, w' = w.drewN n := by
  by_cases h : k < s.size
  · have hp := pk_lt s k h
    go_enter Try.func11, Try.ntmps11
    go_wp2
    go_quiet (fail)
    go_wp2
    go_quiet (fail)
    go_wp2
    go_ret
    exact ⟨ret_int hp.symm, _, World.drewN_drewN _ _ _⟩
  · have hp := pk_ge s k (by omega)
    go_enter Try.func11, Try.ntmps11
    go_wp2
    go_quiet (fail)
    go_wp2
    go_ret
    exact ⟨ret_int hp.symm, _, rfl⟩

/-- newScanner -/
theorem new_any (s : ByteArray) (k col : Int) (w : World) :
    Calls Try.prog 7 #[.string s, .int .i64 k, .int .i64 col] w fun e w' =>
      e = .returned (.pointer (some ⟨w.heap.size, 0, none⟩)) ∧ w' = w.alloc (.cells #[.string s, .int .i64 k, .int .i64 col] 30) := by
  go_enter Try.func7, Try.ntmps7
  go_wp2
  go_ret
  exact ⟨rfl, rfl⟩

theorem idx_at {s : ByteArray} {i : Int} {k : Nat} (hi : i = (k : Int)) (h : k < s.size) (w : World) :
    (Instr.index 9 (.string s) (.int .i64 i)).run Try.prog w = .ok (.int .u8 (pk s k)) w := by
  subst hi
  rw [run_index_string w 9 s .i64 (k : Int) Try.underlying9]
  rw [pk_lt s k h]
  simp [h]
theorem hide {p : Prop} (h : p) : Hid p := h
theorem isDigit_is {c : Int} {d : Bool} (h : digB c = d) (w : World) :
    Calls Try.prog 12 #[.int .u8 c] w fun e w' => e = .returned (.bool d) ∧ w' = w := by
  rw [← h]; exact isDigit_any c w

/-- atNumber -/
theorem atNumber_any (s : ByteArray) (k b : Nat) (w : World) (hs : s.size ≤ 1048576) (hk : k ≤ s.size)
    (c0 : w.cell? ⟨b, 0, none⟩ = some (.string s)) (c1 : w.cell? ⟨b, 1, none⟩ = some (.int .i64 (k : Int))) :
    Calls Try.prog 10 #[.pointer (some ⟨b, 0, none⟩)] w fun e w' => e = .returned (.bool (atNum s k)) ∧ ∃ n, w' = w.drewN n := by
  go_enter Try.func10, Try.ntmps10
  go_wp2_with fail
  refine (peek_any s k b _ hs c0 c1).mono ?_
  rintro e w' ⟨rfl, n, hw⟩
  have d0 : w'.cell? ⟨b, 0, none⟩ = some (.string s) := by rw [hw]; exact c0
  have d1 : w'.cell? ⟨b, 1, none⟩ = some (.int .i64 (k : Int)) := by rw [hw]; exact c1
  replace hw := hide hw
  cases h0 : digB (pk s k) with
  | true =>
    have hfin : Hid (atNum s k = true) := hide (by simp [atNum, h0])
    have H0 := hide h0
    clear h0
    go_wp2_with fail
    go_quiet ((go_at_call 12; exact Calls.quiet_of_same (isDigit_is H0.out _)))
    go_wp2
    go_ret
    exact ⟨ret_bool hfin.out.symm, _, by rw [hw.out]; exact World.drewN_drewN _ _ _⟩
  | false =>
    have H0 := hide h0
    by_cases h1 : pk s k = 46
    · have h1' : (pk s k == 46) = true := by simp [h1]
      have hlt : k < s.size := by
        apply Classical.byContradiction
        intro hn
        rw [pk_ge s k (by omega)] at h1
        simp at h1
      by_cases h2 : k + 1 < s.size
      · have hfin : Hid (atNum s k = digB (pk s (k + 1))) := hide (atNum_point h1)
        obtain ⟨d, hd⟩ : ∃ d, digB (pk s (k + 1)) = d := ⟨_, rfl⟩
        have HD := hide hd
        clear hd
        have H2 : (k : Int) + 1 < (s.size : Int) := by omega
        have hwr : IntKind.i64.wrap ((k : Int) + 1) = (k : Int) + 1 := IntWalk.i64_in _ ⟨by omega, by omega⟩
        have hix := idx_at (i := (k : Int) + 1) (k := k + 1) (by omega) h2
        clear h0 h1
        go_wp2_with fail
        go_quiet ((go_at_call 12; exact Calls.quiet_of_same (isDigit_is (by first | (with_reducible exact H0.out) | (with_reducible exact HD.out)) _)))
        go_wp2
        go_ret
        exact ⟨ret_bool ((hfin.out.trans HD.out).symm), _, by rw [hw.out]; exact World.drewN_drewN _ _ _⟩
      · have hfin : Hid (atNum s k = false) := hide (by rw [atNum_point h1, pk_ge s (k + 1) (by omega)]; exact digB_zero)
        have H2 : ¬ (k : Int) + 1 < (s.size : Int) := by omega
        have H2' : decide ((k : Int) + 1 < (s.size : Int)) = false := by simpa using H2
        clear h0 h1
        go_wp2_with fail
        go_quiet ((go_at_call 12; exact Calls.quiet_of_same (isDigit_is H0.out _)))
        go_wp2
        go_ret
        exact ⟨ret_bool hfin.out.symm, _, by rw [hw.out]; exact World.drewN_drewN _ _ _⟩
    · have h1' : (pk s k == 46) = false := by simp [h1]
      have hfin : Hid (atNum s k = false) := hide (by simp [atNum, h0, h1])
      clear h0 h1
      go_wp2_with fail
      go_quiet ((go_at_call 12; exact Calls.quiet_of_same (isDigit_is H0.out _)))
      go_wp2
      go_ret
      exact ⟨ret_bool hfin.out.symm, _, by rw [hw.out]; exact World.drewN_drewN _ _ _⟩

/-- ZZscannerAtNumber -/
theorem zzAt_any (s : ByteArray) (k b : Nat) (w : World) (hs : s.size ≤ 1048576) (hk : k ≤ s.size)
    (c0 : w.cell? ⟨b, 0, none⟩ = some (.string s)) (c1 : w.cell? ⟨b, 1, none⟩ = some (.int .i64 (k : Int))) :
    Calls Try.prog 6 #[.pointer (some ⟨b, 0, none⟩)] w fun e w' => e = .returned (.bool (atNum s k)) ∧ ∃ n, w' = w.drewN n := by
  go_enter Try.func6, Try.ntmps6
  go_wp2_with fail
  refine (atNumber_any s k b _ hs hk c0 c1).mono ?_
  rintro e w' ⟨rfl, n, rfl⟩
  go_wp2
  go_ret
  exact ⟨rfl, _, rfl⟩
end Go.Proofs.Qxb6616681a
