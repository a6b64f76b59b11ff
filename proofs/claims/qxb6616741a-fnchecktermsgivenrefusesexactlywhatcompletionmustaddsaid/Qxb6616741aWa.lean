/- THE WALKS of seat b6616741a: checkPresent, checkTermsGiven, zzTermsRefused. -/
import Derived.Test.Qxb6616741aRows
import Derived.WalkKit
import Derived.WalkSpells
import Derived.WalkLawsBesides
import Derived.RowKit3
import Derived.Below
import Derived.Deep.QuietTactic
import Derived.BigQuiet
namespace Go.Proofs.Qxb6616741a
open Go.RowKit

theorem hide {p : Prop} (h : p) : Hid p := h

/-- An error value: nil just where nothing is bad. -/
def IsErr (v : Value) (bad : Bool) : Prop := match bad with | true => ∃ t x, v = .iface t x | false => v = .nilIface

/-- One of the nine required limits lacks. -/
def lacks (p0 p1 p2 p3 p4 p5 p6 p7 p8 : Option Addr) : Bool := p0.isNone || p1.isNone || p2.isNone || p3.isNone || p4.isNone || p5.isNone || p6.isNone || p7.isNone || p8.isNone

theorem new_any (s : ByteArray) (w : World) :
    Calls Try.prog 16 #[.string s] w fun e w' => (∃ v, e = .returned v ∧ IsErr v true) ∧ Below w.heap.size w w' := by
  go_enter Try.func16, Try.ntmps16
  go_wp2
  go_ret
  exact ⟨⟨_, rfl, _, _, rfl⟩, (Below.refl _ _).alloc (Nat.le_refl _) _⟩

theorem present_nil (w : World) :
    Calls Try.prog 17 #[.pointer none] w fun e w' => (∃ v, e = .returned v ∧ IsErr v true) ∧ Below w.heap.size w w' := by
  go_enter Try.func17, Try.ntmps17
  go_wp2_with (go_at_call 16; refine (new_any _ _).mono ?_; rintro e w' ⟨⟨v, rfl, hv⟩, hb⟩)
  go_ret
  exact ⟨⟨_, rfl, hv⟩, hb⟩

set_option maxHeartbeats 4000000 in
theorem present_any (p0 p1 p2 p3 p4 p5 p6 p7 p8 : Option Addr) (b : Nat) (w : World)
    (c0 : w.cell? ⟨b, 0, none⟩ = some (.pointer p0))
    (c1 : w.cell? ⟨b, 1, none⟩ = some (.pointer p1))
    (c2 : w.cell? ⟨b, 2, none⟩ = some (.pointer p2))
    (c3 : w.cell? ⟨b, 3, none⟩ = some (.pointer p3))
    (c4 : w.cell? ⟨b, 4, none⟩ = some (.pointer p4))
    (c5 : w.cell? ⟨b, 5, none⟩ = some (.pointer p5))
    (c6 : w.cell? ⟨b, 6, none⟩ = some (.pointer p6))
    (c7 : w.cell? ⟨b, 7, none⟩ = some (.pointer p7))
    (c8 : w.cell? ⟨b, 8, none⟩ = some (.pointer p8)) :
    Calls Try.prog 17 #[.pointer (some ⟨b, 0, none⟩)] w fun e w' => (∃ v, e = .returned v ∧ IsErr v (lacks p0 p1 p2 p3 p4 p5 p6 p7 p8)) ∧ Below w.heap.size w w' := by
  rcases p0 with _ | a0
  · go_enter Try.func17, Try.ntmps17
    go_wp2_with (go_at_call 16; refine (new_any _ _).mono ?_; rintro e w' ⟨⟨v, rfl, hv⟩, hb⟩)
    go_ret
    exact ⟨⟨_, rfl, by simpa [lacks] using hv⟩, hb⟩
  rcases p1 with _ | a1
  · go_enter Try.func17, Try.ntmps17
    go_wp2_with (go_at_call 16; refine (new_any _ _).mono ?_; rintro e w' ⟨⟨v, rfl, hv⟩, hb⟩)
    go_ret
    exact ⟨⟨_, rfl, by simpa [lacks] using hv⟩, hb⟩
  rcases p2 with _ | a2
  · go_enter Try.func17, Try.ntmps17
    go_wp2_with (go_at_call 16; refine (new_any _ _).mono ?_; rintro e w' ⟨⟨v, rfl, hv⟩, hb⟩)
    go_ret
    exact ⟨⟨_, rfl, by simpa [lacks] using hv⟩, hb⟩
  rcases p3 with _ | a3
  · go_enter Try.func17, Try.ntmps17
    go_wp2_with (go_at_call 16; refine (new_any _ _).mono ?_; rintro e w' ⟨⟨v, rfl, hv⟩, hb⟩)
    go_ret
    exact ⟨⟨_, rfl, by simpa [lacks] using hv⟩, hb⟩
  rcases p4 with _ | a4
  · go_enter Try.func17, Try.ntmps17
    go_wp2_with (go_at_call 16; refine (new_any _ _).mono ?_; rintro e w' ⟨⟨v, rfl, hv⟩, hb⟩)
    go_ret
    exact ⟨⟨_, rfl, by simpa [lacks] using hv⟩, hb⟩
  rcases p5 with _ | a5
  · go_enter Try.func17, Try.ntmps17
    go_wp2_with (go_at_call 16; refine (new_any _ _).mono ?_; rintro e w' ⟨⟨v, rfl, hv⟩, hb⟩)
    go_ret
    exact ⟨⟨_, rfl, by simpa [lacks] using hv⟩, hb⟩
  rcases p6 with _ | a6
  · go_enter Try.func17, Try.ntmps17
    go_wp2_with (go_at_call 16; refine (new_any _ _).mono ?_; rintro e w' ⟨⟨v, rfl, hv⟩, hb⟩)
    go_ret
    exact ⟨⟨_, rfl, by simpa [lacks] using hv⟩, hb⟩
  rcases p7 with _ | a7
  · go_enter Try.func17, Try.ntmps17
    go_wp2_with (go_at_call 16; refine (new_any _ _).mono ?_; rintro e w' ⟨⟨v, rfl, hv⟩, hb⟩)
    go_ret
    exact ⟨⟨_, rfl, by simpa [lacks] using hv⟩, hb⟩
  rcases p8 with _ | a8
  · go_enter Try.func17, Try.ntmps17
    go_wp2_with (go_at_call 16; refine (new_any _ _).mono ?_; rintro e w' ⟨⟨v, rfl, hv⟩, hb⟩)
    go_ret
    exact ⟨⟨_, rfl, by simpa [lacks] using hv⟩, hb⟩
  go_enter Try.func17, Try.ntmps17
  go_wp2
  go_ret
  exact ⟨⟨_, rfl, by simp [lacks, IsErr]⟩, Below.refl _ _⟩
end Go.Proofs.Qxb6616741a
