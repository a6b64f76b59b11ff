/- skipSpace, accepts, takes, closing -/
import Derived.Test.Qxb6616012aMem
namespace Go.Proofs.Qxb6616012a
open Go.RowKit

/-- not white space -/
def Dark (c : Int) : Prop := c ≠ 32 ∧ c ≠ 9 ∧ c ≠ 10 ∧ c ≠ 13

theorem skipSpace_any (S D N C : Nat) (bt : Nat → Int) (p dep : Nat) (w : World) (h : St w S D N C bt p dep) (hp : p < N) (_hN : N ≤ 1048576) (hd : Dark (bt p)) :
    Calls Try.prog 34 #[.pointer (some ⟨S, 0, none⟩)] w fun e w' => e = .returned (.tuple #[]) ∧ ∃ q, w' = w.drewN q := by
  obtain ⟨d1, d2, d3, d4⟩ := hd
  have e1 : (bt p == 32) = false := by simp [d1]
  have e2 : (bt p == 9) = false := by simp [d2]
  have e3 : (bt p == 10) = false := by simp [d3]
  have e4 : (bt p == 13) = false := by simp [d4]
  have k0 := h.c0
  have k1 := h.c1
  have kb := h.bytes p hp
  have hp' : (p : Int) < (N : Int) := by omega
  have H := hid h
  clear h d1 d2 d3 d4
  go_enter Try.func34, Try.ntmps34
  go_wp2
  go_loopw [2] (fun _ wr => ∃ q, wr = w.drewN q) (fun _ _ => 0)
  case atStart => exact ⟨0, rfl⟩
  case round =>
    obtain ⟨q, hq⟩ := hrel
    have l0 : wr.cell? ⟨S, 0, none⟩ = some (.slice (some ⟨D, 0, none⟩) N C) := by rw [hq]; exact k0
    have l1 : wr.cell? ⟨S, 1, none⟩ = some (.int .i64 (p : Int)) := by rw [hq]; exact k1
    have lb : wr.cell? ⟨D, p, none⟩ = some (.int .u8 (bt p)) := by rw [hq]; exact kb
    have Hq := hid hq
    clear hq k0 k1 kb
    go_wp2
    go_quiet (fail)
    go_wp2
    go_quiet (fail)
    go_wp2
    exact bodyPost_ret (v := .tuple #[]) (by simp [results, Try.results34, go_sem]) rfl ⟨rfl, _, by rw [Hq.out, World.drewN_drewN]⟩

/-- accepts: it is there -/
theorem accepts_yes (S D N C : Nat) (bt : Nat → Int) (p dep : Nat) (c : Int) (w : World) (h : St w S D N C bt p dep) (hp : p < N) (hN : N ≤ 1048576) (hc : bt p = c) :
    Calls Try.prog 42 #[.pointer (some ⟨S, 0, none⟩), .int .u8 c] w fun e w' => e = .returned (.bool true) ∧ St w' S D N C bt (p + 1) dep ∧ Mv S w w' := by
  subst hc
  have e1 : (bt p == bt p) = true := by simp
  have k0 := h.c0
  have k1 := h.c1
  have kf := h.f1
  have kb := h.bytes p hp
  have hp' : (p : Int) < (N : Int) := by omega
  have H := hid h
  clear h
  go_enter Try.func42, Try.ntmps42
  go_wp2
  go_quiet (fail)
  go_wp2
  go_ret
  exact ⟨rfl, (H.out.drewN _).step, ((Mv.refl S w).drewN _).set _ _⟩

/-- accepts: it is not there -/
theorem accepts_no (S D N C : Nat) (bt : Nat → Int) (p dep : Nat) (c : Int) (w : World) (h : St w S D N C bt p dep) (hp : p < N) (_hN : N ≤ 1048576) (hc : bt p ≠ c) :
    Calls Try.prog 42 #[.pointer (some ⟨S, 0, none⟩), .int .u8 c] w fun e w' => e = .returned (.bool false) ∧ ∃ q, w' = w.drewN q := by
  have e1 : (bt p == c) = false := by simp [hc]
  have k0 := h.c0
  have k1 := h.c1
  have kb := h.bytes p hp
  have hp' : (p : Int) < (N : Int) := by omega
  have H := hid h
  clear h
  go_enter Try.func42, Try.ntmps42
  go_wp2
  go_quiet (fail)
  go_wp2
  go_ret
  exact ⟨rfl, _, rfl⟩

theorem takes_yes (S D N C : Nat) (bt : Nat → Int) (p dep : Nat) (c : Int) (w : World) (h : St w S D N C bt p dep) (hp : p < N) (hN : N ≤ 1048576) (hd : Dark (bt p)) (hc : bt p = c) :
    Calls Try.prog 39 #[.pointer (some ⟨S, 0, none⟩), .int .u8 c] w fun e w' => e = .returned (.bool true) ∧ St w' S D N C bt (p + 1) dep ∧ Mv S w w' := by
  have H := hid h
  have Hd := hid hd
  have Hc := hid hc
  clear h hd hc
  go_enter Try.func39, Try.ntmps39
  go_wp2_with fail
  refine (skipSpace_any S D N C bt p dep _ H.out hp hN Hd.out).mono ?_
  rintro e w1 ⟨rfl, q, hw1⟩
  have H1 : Hid (St w1 S D N C bt p dep) := by rw [hw1]; exact H.out.drewN q
  have M1 : Hid (Mv S w w1) := by rw [hw1]; exact (Mv.refl S w).drewN q
  clear hw1 H
  go_wp2_with fail
  refine (accepts_yes S D N C bt p dep c _ H1.out hp hN Hc.out).mono ?_
  rintro e w2 ⟨rfl, h2, m2⟩
  have H2 := hid h2
  have M2 := hid m2
  clear h2 m2
  go_wp2
  go_ret
  exact ⟨rfl, H2.out, M1.out.trans M2.out⟩

theorem takes_no (S D N C : Nat) (bt : Nat → Int) (p dep : Nat) (c : Int) (w : World) (h : St w S D N C bt p dep) (hp : p < N) (hN : N ≤ 1048576) (hd : Dark (bt p)) (hc : bt p ≠ c) :
    Calls Try.prog 39 #[.pointer (some ⟨S, 0, none⟩), .int .u8 c] w fun e w' => e = .returned (.bool false) ∧ ∃ q, w' = w.drewN q := by
  have H := hid h
  have Hd := hid hd
  have Hc := hid hc
  clear h hd hc
  go_enter Try.func39, Try.ntmps39
  go_wp2_with fail
  refine (skipSpace_any S D N C bt p dep _ H.out hp hN Hd.out).mono ?_
  rintro e w1 ⟨rfl, q, hw1⟩
  have H1 : Hid (St w1 S D N C bt p dep) := by rw [hw1]; exact H.out.drewN q
  have W1 := hid hw1
  clear hw1 H
  go_wp2_with fail
  refine (accepts_no S D N C bt p dep c _ H1.out hp hN Hc.out).mono ?_
  rintro e w2 ⟨rfl, q2, hw2⟩
  have W2 := hid hw2
  clear hw2
  go_wp2
  go_ret
  exact ⟨rfl, _, by rw [W2.out, W1.out, World.drewN_drewN]⟩

/-- closing -/
def cloI (c : Int) : Int := if c = 123 then 125 else 93
theorem closing_any (c : Int) (w : World) : Calls Try.prog 24 #[.int .u8 c] w fun e w' => e = .returned (.int .u8 (cloI c)) ∧ w = w' := by
  by_cases h : c = 123
  · have e1 : (c == 123) = true := by simp [h]
    have e2 : Hid (cloI c = 125) := by simp [Hid, cloI, h]
    clear h
    go_enter Try.func24, Try.ntmps24
    go_wp2
    go_ret
    exact ⟨by rw [e2.out]; rfl, rfl⟩
  · have e1 : (c == 123) = false := by simp [h]
    have e2 : Hid (cloI c = 93) := by simp [Hid, cloI, h]
    clear h
    go_enter Try.func24, Try.ntmps24
    go_wp2
    go_ret
    exact ⟨by rw [e2.out]; rfl, rfl⟩

/-- opens: at a bracket -/
theorem opens_yes (S D N C : Nat) (bt : Nat → Int) (p dep : Nat) (w : World) (h : St w S D N C bt p dep) (hp : p < N) (hN : N ≤ 1048576) (hc : bt p = 123 ∨ bt p = 91) :
    Calls Try.prog 26 #[.pointer (some ⟨S, 0, none⟩)] w fun e w' => e = .returned (.bool true) ∧ ∃ q, w' = w.drewN q := by
  have hd : Dark (bt p) := by unfold Dark; omega
  have H := hid h
  have Hd := hid hd
  have Hc := hid hc
  clear h hd hc
  go_enter Try.func26, Try.ntmps26
  go_wp2_with fail
  refine (skipSpace_any S D N C bt p dep _ H.out hp hN Hd.out).mono ?_
  rintro e w1 ⟨rfl, q, hw1⟩
  have h1 : St w1 S D N C bt p dep := by rw [hw1]; exact H.out.drewN q
  have k0 := h1.c0
  have k1 := h1.c1
  have kb := h1.bytes p hp
  have hp' : (p : Int) < (N : Int) := by omega
  have W1 := hid hw1
  clear h1 hw1 H
  by_cases h123 : bt p = 123
  · have e1 : (bt p == 123) = true := by simp [h123]
    clear h123
    go_wp2
    go_quiet (fail)
    go_wp2
    go_ret
    exact ⟨rfl, _, by rw [W1.out, World.drewN_drewN]⟩
  · have e1 : (bt p == 123) = false := by simp [h123]
    have e2 : (bt p == 91) = true := by have := Hc.out; simp; omega
    clear h123
    go_wp2
    go_quiet (fail)
    go_wp2
    go_ret
    exact ⟨rfl, _, by rw [W1.out, World.drewN_drewN]⟩
end Go.Proofs.Qxb6616012a
