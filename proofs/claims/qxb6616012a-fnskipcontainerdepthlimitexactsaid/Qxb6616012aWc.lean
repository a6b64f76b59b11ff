/- nextElement, nextIn -/
import Derived.Test.Qxb6616012aWa
namespace Go.Proofs.Qxb6616012a
open Go.RowKit

/-- what is asked of memberName (proved in Wb) -/
def MemClose : Prop := ∀ (S D N C : Nat) (bt : Nat → Int) (p dep : Nat) (i : Int) (w : World), St w S D N C bt p dep → p < N → N ≤ 1048576 → bt p = 125 →
    Calls Try.prog 32 #[.pointer (some ⟨S, 0, none⟩), .int .i64 i] w fun e w' => (∃ v, e = .returned (.tuple #[v, .bool false])) ∧ St w' S D N C bt (p + 1) dep ∧ Mv S w w'
def MemOpen : Prop := ∀ (S D N C : Nat) (bt : Nat → Int) (p dep : Nat) (w : World), St w S D N C bt p dep → p + 2 < N → N ≤ 1048576 → bt p = 34 → bt (p + 1) = 34 → bt (p + 2) = 58 →
    Calls Try.prog 32 #[.pointer (some ⟨S, 0, none⟩), .int .i64 0] w fun e w' => (∃ v, e = .returned (.tuple #[v, .bool true])) ∧ St w' S D N C bt (p + 3) dep ∧ Mv S w w'

theorem element_close (S D N C : Nat) (bt : Nat → Int) (p dep : Nat) (i : Int) (w : World) (h : St w S D N C bt p dep) (hp : p < N) (hN : N ≤ 1048576) (hc : bt p = 93) :
    Calls Try.prog 33 #[.pointer (some ⟨S, 0, none⟩), .int .i64 i] w fun e w' => e = .returned (.bool false) ∧ St w' S D N C bt (p + 1) dep ∧ Mv S w w' := by
  have H := hid h
  have Hc := hid hc
  clear h hc
  go_enter Try.func33, Try.ntmps33
  go_wp2_with fail
  refine (takes_yes S D N C bt p dep 93 _ H.out hp hN (by have := Hc.out; unfold Dark; omega) Hc.out).mono ?_
  rintro e w1 ⟨rfl, h1, m1⟩
  have H1 := hid h1
  have M1 := hid m1
  clear h1 m1
  go_wp2
  go_ret
  exact ⟨rfl, H1.out, M1.out⟩

theorem element_open (S D N C : Nat) (bt : Nat → Int) (p dep : Nat) (w : World) (h : St w S D N C bt p dep) (hp : p < N) (hN : N ≤ 1048576) (hd : Dark (bt p)) (hc : bt p ≠ 93) :
    Calls Try.prog 33 #[.pointer (some ⟨S, 0, none⟩), .int .i64 0] w fun e w' => e = .returned (.bool true) ∧ St w' S D N C bt p dep ∧ Mv S w w' := by
  have H := hid h
  have Hc := hid hc
  have Hd := hid hd
  clear h hc hd
  go_enter Try.func33, Try.ntmps33
  go_wp2_with fail
  refine (takes_no S D N C bt p dep 93 _ H.out hp hN Hd.out Hc.out).mono ?_
  rintro e w1 ⟨rfl, q, hw1⟩
  have H1 : Hid (St w1 S D N C bt p dep) := by rw [hw1]; exact H.out.drewN q
  have M1 : Hid (Mv S w w1) := by rw [hw1]; exact (Mv.refl S w).drewN q
  clear hw1
  go_wp2
  go_ret
  exact ⟨rfl, H1.out, M1.out⟩

/-- nextIn at the closing bracket -/
theorem nextIn_close (hMC : MemClose) (S D N C : Nat) (bt : Nat → Int) (p dep : Nat) (c i : Int) (w : World) (h : St w S D N C bt p dep) (hp : p < N) (hN : N ≤ 1048576) (hcc : c = 125 ∨ c = 93) (hc : bt p = c) :
    Calls Try.prog 25 #[.pointer (some ⟨S, 0, none⟩), .int .u8 c, .int .i64 i] w fun e w' => e = .returned (.bool false) ∧ St w' S D N C bt (p + 1) dep ∧ Mv S w w' := by
  have H := hid h
  have Hc := hid hc
  clear h hc
  rcases hcc with rfl | rfl
  · go_enter Try.func25, Try.ntmps25
    go_wp2_with fail
    refine (hMC S D N C bt p dep i _ H.out hp hN Hc.out).mono ?_
    rintro e w1 ⟨⟨v, rfl⟩, h1, m1⟩
    have H1 := hid h1
    have M1 := hid m1
    clear h1 m1
    go_wp2
    go_ret
    exact ⟨rfl, H1.out, M1.out⟩
  · go_enter Try.func25, Try.ntmps25
    go_wp2_with fail
    refine (element_close S D N C bt p dep i _ H.out hp hN Hc.out).mono ?_
    rintro e w1 ⟨rfl, h1, m1⟩
    have H1 := hid h1
    have M1 := hid m1
    clear h1 m1
    go_wp2
    go_ret
    exact ⟨rfl, H1.out, M1.out⟩

/-- nextIn in an object, at its first member, its name empty -/
theorem nextIn_obj (hMO : MemOpen) (S D N C : Nat) (bt : Nat → Int) (p dep : Nat) (w : World) (h : St w S D N C bt p dep) (hp : p + 2 < N) (hN : N ≤ 1048576) (hc0 : bt p = 34) (hc1 : bt (p + 1) = 34) (hc2 : bt (p + 2) = 58) :
    Calls Try.prog 25 #[.pointer (some ⟨S, 0, none⟩), .int .u8 125, .int .i64 0] w fun e w' => e = .returned (.bool true) ∧ St w' S D N C bt (p + 3) dep ∧ Mv S w w' := by
  have K := hid (hMO S D N C bt p dep w h hp hN hc0 hc1 hc2)
  clear h hc0 hc1 hc2 hMO
  go_enter Try.func25, Try.ntmps25
  go_wp2_with fail
  refine K.out.mono ?_
  rintro e w1 ⟨⟨v, rfl⟩, h1, m1⟩
  have H1 := hid h1
  have M1 := hid m1
  clear h1 m1
  go_wp2
  go_ret
  exact ⟨rfl, H1.out, M1.out⟩

/-- nextIn in an array, at its first element -/
theorem nextIn_arr (S D N C : Nat) (bt : Nat → Int) (p dep : Nat) (w : World) (h : St w S D N C bt p dep) (hp : p < N) (hN : N ≤ 1048576) (hd : Dark (bt p)) (hc : bt p ≠ 93) :
    Calls Try.prog 25 #[.pointer (some ⟨S, 0, none⟩), .int .u8 93, .int .i64 0] w fun e w' => e = .returned (.bool true) ∧ St w' S D N C bt p dep ∧ Mv S w w' := by
  have K := hid (element_open S D N C bt p dep w h hp hN hd hc)
  clear h hc hd
  go_enter Try.func25, Try.ntmps25
  go_wp2_with fail
  refine K.out.mono ?_
  rintro e w1 ⟨rfl, h1, m1⟩
  have H1 := hid h1
  have M1 := hid m1
  clear h1 m1
  go_wp2
  go_ret
  exact ⟨rfl, H1.out, M1.out⟩
end Go.Proofs.Qxb6616012a
