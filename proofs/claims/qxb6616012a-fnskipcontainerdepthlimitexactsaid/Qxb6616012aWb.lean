/- skipString at an empty name, memberName, nextElement, nextIn -/
import Derived.Test.Qxb6616012aWa
import Derived.StillTailTactics
namespace Go.Proofs.Qxb6616012a
open Go.RowKit

theorem St.moveI {w : World} {S D N C : Nat} {bt : Nat → Int} {p dep : Nat} (h : St w S D N C bt p dep) {p' : Nat} {x : Int} (hx : x = (p' : Int)) : St (w.setCell ⟨S, 1, none⟩ (.int .i64 x)) S D N C bt p' dep := by
  subst hx; exact h.move p'
theorem St.atI {w : World} {S D N C : Nat} {bt : Nat → Int} {p dep : Nat} (h : St w S D N C bt p dep) {x : Int} (hx : (p : Int) = x) : w.cell? ⟨S, 1, none⟩ = some (.int .i64 x) := by
  subst hx; exact h.c1

theorem St.drew {w : World} {S D N C : Nat} {bt : Nat → Int} {p dep : Nat} (h : St w S D N C bt p dep) : St w.drew S D N C bt p dep := h.drewN 1
theorem Mv.drew {S : Nat} {a b : World} (h : Mv S a b) : Mv S a b.drew := h.drewN 1

theorem skipString_any (S D N C : Nat) (bt : Nat → Int) (p dep : Nat) (w : World) (h : St w S D N C bt p dep) (hp : p + 1 < N) (hN : N ≤ 1048576) (hc : bt (p + 1) = 34) :
    Calls Try.prog 35 #[.pointer (some ⟨S, 0, none⟩)] w fun e w' => e = .returned (.bool true) ∧ St w' S D N C bt (p + 1 + 1) dep ∧ Mv S w w' := by
  have k1 := h.c1
  have kf := h.f1
  have H := hid h
  have e1 : (bt (p + 1) == 34) = true := by simp [hc]
  clear h hc
  go_enter Try.func35, Try.ntmps35
  go_wp2
  go_loopw [3] (fun _ wr => St wr S D N C bt (p + 1) dep ∧ Mv S w wr) (fun _ _ => 0)
  case atStart => exact ⟨H.out.step, (Mv.refl S w).set _ _⟩
  case round =>
    obtain ⟨h1, m1⟩ := hrel
    have l0 := h1.c0
    have l1 : wr.cell? ⟨S, 1, none⟩ = some (.int .i64 ((p : Int) + 1)) := by
      have := h1.c1
      have e : ((p + 1 : Nat) : Int) = (p : Int) + 1 := by omega
      rw [e] at this; exact this
    have lf := h1.f1
    have lb := h1.bytes (p + 1) hp
    have H1 := hid h1
    have M1 := hid m1
    have hp' : (p : Int) + 1 < (N : Int) := by omega
    clear h1 m1 k1 kf
    go_wp2
    go_quiet (fail)
    go_wp2
    go_quiet (fail)
    go_wp2
    go_ret
    exact ⟨rfl, (H1.out.drewN _).moveI (by omega), (M1.out.drewN _).set _ _⟩

/-- memberName at the closing brace -/
theorem member_close (S D N C : Nat) (bt : Nat → Int) (p dep : Nat) (i : Int) (w : World) (h : St w S D N C bt p dep) (hp : p < N) (hN : N ≤ 1048576) (hc : bt p = 125) :
    Calls Try.prog 32 #[.pointer (some ⟨S, 0, none⟩), .int .i64 i] w fun e w' => (∃ v, e = .returned (.tuple #[v, .bool false])) ∧ St w' S D N C bt (p + 1) dep ∧ Mv S w w' := by
  have H := hid h
  have Hc := hid hc
  clear h hc
  go_enter Try.func32, Try.ntmps32
  go_wp2_with fail
  refine (takes_yes S D N C bt p dep 125 _ H.out hp hN (by have := Hc.out; unfold Dark; omega) Hc.out).mono ?_
  rintro e w1 ⟨rfl, h1, m1⟩
  have H1 := hid h1
  have M1 := hid m1
  clear h1 m1
  go_wp2
  go_ret2
  exact ⟨⟨_, rfl⟩, H1.out, M1.out⟩

set_option maxHeartbeats 8000000 in
/-- memberName at the first member, its name empty -/
theorem member_open (S D N C : Nat) (bt : Nat → Int) (p dep : Nat) (w : World) (h : St w S D N C bt p dep) (hp : p + 2 < N) (hN : N ≤ 1048576) (hc0 : bt p = 34) (hc1 : bt (p + 1) = 34) (hc2 : bt (p + 2) = 58) :
    Calls Try.prog 32 #[.pointer (some ⟨S, 0, none⟩), .int .i64 0] w fun e w' => (∃ v, e = .returned (.tuple #[v, .bool true])) ∧ St w' S D N C bt (p + 3) dep ∧ Mv S w w' := by
  have H := hid h
  have Hc0 := hid hc0
  have Hc1 := hid hc1
  have Hc2 := hid hc2
  clear h hc0 hc1 hc2
  go_enter Try.func32, Try.ntmps32
  go_wp2_with fail
  refine (takes_no S D N C bt p dep 125 _ H.out (by omega) hN (by have := Hc0.out; unfold Dark; omega) (by rw [Hc0.out]; decide)).mono ?_
  rintro e w1 ⟨rfl, q1, hw1⟩
  have H1 : Hid (St w1 S D N C bt p dep) := by rw [hw1]; exact H.out.drewN q1
  have M1 : Hid (Mv S w w1) := by rw [hw1]; exact (Mv.refl S w).drewN q1
  clear hw1 H
  go_wp2_with fail
  refine (skipSpace_any S D N C bt p dep _ H1.out (by omega) hN (by have := Hc0.out; unfold Dark; omega)).mono ?_
  rintro e w2 ⟨rfl, q2, hw2⟩
  have H2 : Hid (St w2 S D N C bt p dep) := by rw [hw2]; exact H1.out.drewN q2
  have M2 : Hid (Mv S w w2) := by rw [hw2]; exact M1.out.drewN q2
  clear hw2 H1 M1
  have k0 := H2.out.c0
  have k1 := H2.out.c1
  have kb := H2.out.bytes p (by omega)
  have e1 : ((p : Int) == (N : Int)) = false := by simp; omega
  have e2 : (bt p != 34) = false := by simp [Hc0.out]
  have hp' : (p : Int) < (N : Int) := by omega
  go_upto_region 7 with fail
  go_cut [54] (fun t w' => t = .bool false ∧ St w' S D N C bt (p + 1 + 1) dep ∧ Mv S w w')
  case first =>
    go_still_tail 25, (by kernel_rfl)
    go_wp2_with fail
    refine (skipString_any S D N C bt p dep _ (by exact H2.out.drew) (by omega) hN Hc1.out).mono ?_
    rintro e w3 ⟨rfl, h3, m3⟩
    have H3 := hid h3
    have M3 : Hid (Mv S w w3) := hid (M2.out.drew.trans m3)
    clear h3 m3
    go_wp2_with fail
    go_meet
    case rel => exact ⟨rfl, H3.out, M3.out⟩
  case rest =>
    obtain ⟨rfl, h3, m3⟩ := hcut
    rename World => w3
    have e4 : ((p + 1 + 1 : Nat) : Int) = (p : Int) + 2 := by omega
    have l0 := h3.c0
    have l1 := h3.atI e4
    have hle := h3.le
    have H3 := hid h3
    have M3 := hid m3
    have hle' : (N : Int) ≤ (C : Int) := by omega
    have hp2 : (p : Int) + 2 < (N : Int) := by omega
    clear h3 m3 k0 k1 kb e4 H2 M2
    go_wp2_with fail
    go_quiet (fail)
    go_wp2_with fail
    refine (takes_yes S D N C bt (p + 1 + 1) dep 58 _ (H3.out.drewN nq) (by omega) hN (by have hh : bt (p + 1 + 1) = 58 := Hc2.out; unfold Dark; omega) Hc2.out).mono ?_
    rintro e w4 ⟨rfl, h4, m4⟩
    have H4 := hid h4
    have M4 : Hid (Mv S w w4) := hid ((M3.out.drewN nq).trans m4)
    clear h4 m4
    go_wp2_with fail
    go_ret2
    exact ⟨⟨_, rfl⟩, H4.out, M4.out⟩
end Go.Proofs.Qxb6616012a
