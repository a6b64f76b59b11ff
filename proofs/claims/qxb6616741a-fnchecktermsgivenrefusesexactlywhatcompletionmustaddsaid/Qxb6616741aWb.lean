/- THE WALKS of seat b6616741a: checkTermsGiven, zzTermsRefused. -/
import Derived.Test.Qxb6616741aWa
namespace Go.Proofs.Qxb6616741a
open Go.RowKit

/-- The struct 'file' that ZZb1File makes. -/
abbrev fileV (p0 p1 p2 p3 p4 p5 : Option Addr) : Value := .agg #[Value.string { data := #[] }, Value.pointer p0, Value.pointer p1, Value.pointer p2, Value.pointer none,
              Value.pointer p4, Value.pointer p3, Value.pointer p5, Value.slice none 0 0, Value.pointer none,
              Value.pointer none, Value.map none, Value.map none, Value.pointer none, Value.pointer none,
              Value.slice none 0 0, Value.slice none 0 0]

set_option maxHeartbeats 1000000 in
theorem file_any (p0 p1 p2 p3 p4 p5 : Option Addr) (w : World) :
    Calls Try.prog 13 #[.pointer p0, .pointer p1, .pointer p2, .pointer p3, .pointer p4, .pointer p5] w fun e w' =>
      e = .returned (fileV p0 p1 p2 p3 p4 p5) ∧ Below w.heap.size w w' := by
  go_enter Try.func13, Try.ntmps13
  go_wp2
  exact bodyPost_ret (v := fileV p0 p1 p2 p3 p4 p5) (by simp [results, Try.results13, go_sem]) rfl ⟨rfl, (Below.refl _ _).alloc (Nat.le_refl _) _⟩

set_option maxHeartbeats 1000000 in
theorem terms_nil (p1 p2 p3 p4 p5 : Option Addr) (w : World) :
    Calls Try.prog 15 #[fileV none p1 p2 p3 p4 p5] w fun e w' => (∃ v, e = .returned v ∧ IsErr v true) ∧ Below w.heap.size w w' := by
  go_enter Try.func15, Try.ntmps15
  go_wp2_with (go_at_call 16; refine (new_any _ _).mono ?_; rintro e w' ⟨⟨v, rfl, hv⟩, hb⟩)
  go_ret
  exact ⟨⟨_, rfl, hv⟩, ((Below.refl _ _).alloc (Nat.le_refl _) _).trans (hb.mono (by simp))⟩

set_option maxHeartbeats 2000000 in
theorem terms_empty (b off : Nat) (s : ByteArray) (p1 p2 p3 p4 p5 : Option Addr) (w : World) (hlt : b < w.heap.size) (hc : w.cell? ⟨b, off, none⟩ = some (.string s)) (hs : s.toList.isEmpty = true) :
    Calls Try.prog 15 #[fileV (some ⟨b, off, none⟩) p1 p2 p3 p4 p5] w fun e w' => (∃ v, e = .returned v ∧ IsErr v true) ∧ Below w.heap.size w w' := by
  go_enter Try.func15, Try.ntmps15
  go_wp2_with (go_at_call 16; refine (new_any _ _).mono ?_; rintro e w' ⟨⟨v, rfl, hv⟩, hb⟩)
  go_ret
  exact ⟨⟨_, rfl, hv⟩, ((Below.refl _ _).alloc (Nat.le_refl _) _).trans (hb.mono (by simp))⟩

set_option maxHeartbeats 2000000 in
theorem terms_some (b off : Nat) (s : ByteArray) (p1 p2 p3 p4 p5 : Option Addr) (lim : Bool) (w : World) (hlt : b < w.heap.size) (hc : w.cell? ⟨b, off, none⟩ = some (.string s)) (hs : s.toList.isEmpty = false)
    (hl : Hid (∀ w1, Below w.heap.size w w1 → Calls Try.prog 17 #[.pointer p5] w1 fun e w' => (∃ v, e = .returned v ∧ IsErr v lim) ∧ Below w1.heap.size w1 w')) :
    Calls Try.prog 15 #[fileV (some ⟨b, off, none⟩) p1 p2 p3 p4 p5] w fun e w' => (∃ v, e = .returned v ∧ IsErr v ((p1.isNone || p3.isNone) || (p2.isNone || p4.isNone) || lim)) ∧ Below w.heap.size w w' := by
  rcases p1 with _ | ap1
  · go_enter Try.func15, Try.ntmps15
    go_wp2_with (go_at_call 16; refine (new_any _ _).mono ?_; rintro e w' ⟨⟨v, rfl, hv⟩, hb⟩)
    go_ret
    exact ⟨⟨_, rfl, by simpa using hv⟩, ((Below.refl _ _).alloc (Nat.le_refl _) _).trans (hb.mono (by simp))⟩
  rcases p3 with _ | ap3
  · go_enter Try.func15, Try.ntmps15
    go_wp2_with (go_at_call 16; refine (new_any _ _).mono ?_; rintro e w' ⟨⟨v, rfl, hv⟩, hb⟩)
    go_ret
    exact ⟨⟨_, rfl, by simpa using hv⟩, ((Below.refl _ _).alloc (Nat.le_refl _) _).trans (hb.mono (by simp))⟩
  rcases p2 with _ | ap2
  · go_enter Try.func15, Try.ntmps15
    go_wp2_with (go_at_call 16; refine (new_any _ _).mono ?_; rintro e w' ⟨⟨v, rfl, hv⟩, hb⟩)
    go_ret
    exact ⟨⟨_, rfl, by simpa using hv⟩, ((Below.refl _ _).alloc (Nat.le_refl _) _).trans (hb.mono (by simp))⟩
  rcases p4 with _ | ap4
  · go_enter Try.func15, Try.ntmps15
    go_wp2_with (go_at_call 16; refine (new_any _ _).mono ?_; rintro e w' ⟨⟨v, rfl, hv⟩, hb⟩)
    go_ret
    exact ⟨⟨_, rfl, by simpa using hv⟩, ((Below.refl _ _).alloc (Nat.le_refl _) _).trans (hb.mono (by simp))⟩
  go_enter Try.func15, Try.ntmps15
  go_wp2_with fail
  refine (hl.out _ ((Below.refl _ _).alloc (Nat.le_refl _) _)).mono ?_
  rintro e w' ⟨⟨v, rfl, hv⟩, hb⟩
  go_wp2
  go_ret
  exact ⟨⟨_, rfl, by simpa using hv⟩, ((Below.refl _ _).alloc (Nat.le_refl _) _).trans (hb.mono (by simp))⟩
end Go.Proofs.Qxb6616741a
