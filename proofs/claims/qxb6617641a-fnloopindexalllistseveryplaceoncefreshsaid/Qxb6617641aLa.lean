/- The law's walk. -/
import Derived.Test.Qxb6617641aWd
namespace Go.Proofs.Qxb6617641a
open Go.RowKit

/-- the row that is being overwritten -/
def over (k : Nat) (j : Nat) : Value := if j < k then .int .i64 (-1 - (j : Int)) else .int .i64 (j : Int)
theorem over_zero : over 0 = fun (j : Nat) => Value.int .i64 (j : Int) := by funext j; simp [over]
theorem over_succ (k j : Nat) : (if j = k then Value.int .i64 (-1 - (k : Int)) else over k j) = over (k + 1) j := by
  unfold over
  by_cases h : j = k
  · subst h; simp
  · by_cases h2 : j < k
    · simp [h, h2]; intro; omega
    · have : ¬ j < k + 1 := by omega
      simp [h, h2, this]

theorem GroupsV.drewN {w : World} {v : Value} {n : Nat} {l : Nat → Nat} {f : Nat → Nat → Int} (h : GroupsV w v n l f) (q : Nat) : GroupsV (w.drewN q) v n l f := h.later (B := w.heap.size) ⟨rfl, rfl, rfl, Nat.le_refl _, fun _ _ => rfl⟩ (Nat.le_refl _)
theorem below_drewN {B : Nat} {a w : World} (h : Below B a w) (q : Nat) : Below B a (w.drewN q) := ⟨h.os, h.tape, h.output, h.size, h.block⟩

set_option maxRecDepth 100000 in
set_option maxHeartbeats 4000000 in
theorem law_any (vg vo : Value) (n m : Nat) (l : Nat → Nat) (f : Nat → Nat → Int) (g : Nat → Int) (w : World) (hg : GroupsV w vg n l f) (ho : IntsV w vo m g) (hm : m ≤ 9223372036854775807) (hn : n ≤ 9223372036854775807) (hl : ∀ i, i < n → l i ≤ 9223372036854775807) :
    Calls Try.prog 3 #[vg, vo] w fun e w' => e = .returned (.bool true) ∧ Below w.heap.size w w' := by
  have Kb := hid (bytes_any vg vo n m l f g w hg ho hm hn hl)
  obtain ⟨oa, oc, rfl⟩ := ho.len
  obtain ⟨ga, gc, rfl⟩ := hg.len
  have Hg := hid hg
  have Ho := hid ho
  clear hg ho hl hm hn
  go_enter Try.func3, Try.ntmps3
  go_wp2_with fail
  refine Kb.out.mono ?_
  rintro e w' ⟨⟨b, rfl, hb⟩, rfl⟩
  clear Kb
  cases b with
  | false =>
    go_wp2
    go_ret
    exact ⟨rfl, Below.refl _ _⟩
  | true =>
  obtain ⟨hn, hm, hl⟩ := hb rfl
  have Hl := hid hl
  clear hl hb
  by_cases h1 : 65536 < n
  · go_wp2
    go_ret
    exact ⟨rfl, Below.refl _ _⟩
  by_cases h2 : 131072 < m
  · go_wp2
    go_ret
    exact ⟨rfl, Below.refl _ _⟩
  go_wp2_with fail
  go_loop [5, 6] (fun z i => (∃ y : Int, z = .int .i64 y) ∧ ∃ k : Nat, k ≤ n ∧ i = .int .i64 (k : Int)) (fun _ i => n - (intOf i).toNat)
  case atStart => exact ⟨⟨_, rfl⟩, 0, Nat.zero_le _, rfl⟩
  case round =>
  obtain ⟨⟨y, rfl⟩, k, hk, rfl⟩ := hrel
  by_cases hlt : k < n
  · rcases Hg.out with ⟨_, h⟩ | ⟨_, _, _, h⟩ | ⟨_, b, off, c, hv, hb, hc⟩
    · omega
    · omega
    simp at hv
    obtain ⟨rfl, rfl⟩ := hv
    obtain ⟨x, hx, hxv⟩ := hc k hlt
    obtain ⟨xa, xc, rfl⟩ := hxv.len
    have hlk := Hl.out k hlt
    clear hc hxv
    go_wp2
    · go_ret
      exact ⟨rfl, Below.refl _ _⟩
    · go_round
      case rel => exact ⟨⟨_, rfl⟩, k + 1, by omega, by go_num⟩
      case measure => simp [intOf]; omega
  · go_wp2_with fail
    refine (cloneGroups_any _ _ _ _ _ Hg.out hn Hl.out).mono ?_
    rintro e w1 ⟨⟨v1, rfl, g1⟩, b1⟩
    have G1 := hid g1
    have B1 := hid b1
    obtain ⟨a1, c1, rfl⟩ := g1.len
    have Ho1 := hid (Ho.out.later b1 (Nat.le_refl _))
    clear g1 b1 Hg Ho
    go_wp2_with fail
    refine (cloneInts_any _ _ _ _ Ho1.out hm).mono ?_
    rintro e w2 ⟨⟨v2, rfl, o2, _⟩, b2⟩
    have O2 := hid o2
    have B2 := hid b2
    obtain ⟨a2, c2, rfl⟩ := o2.len
    have G2 := hid (G1.out.later b2 (Nat.le_refl _))
    clear o2 b2 G1 Ho1
    go_wp2_with fail
    refine (cloneGroups_any _ _ _ _ _ G2.out hn Hl.out).mono ?_
    rintro e w3 ⟨⟨v3, rfl, g3⟩, b3⟩
    have X3 := hid g3
    have B3 := hid b3
    obtain ⟨a3, c3, rfl⟩ := g3.len
    have G3 := hid (G2.out.later b3 (Nat.le_refl _))
    have O3 := hid (O2.out.later b3 (Nat.le_refl _))
    clear g3 b3 G2 O2
    go_wp2_with fail
    refine (cloneInts_any _ _ _ _ O3.out hm).mono ?_
    rintro e w4 ⟨⟨v4, rfl, o4, _⟩, b4⟩
    have Y4 := hid o4
    have B4 := hid b4
    obtain ⟨a4, c4, rfl⟩ := o4.len
    have G4 := hid (G3.out.later b4 (Nat.le_refl _))
    have X4 := hid (X3.out.later b4 (Nat.le_refl _))
    have O4 := hid (O3.out.later b4 (Nat.le_refl _))
    clear o4 b4 G3 X3 O3
    have BB : Hid (Below w.heap.size w w4) := hid (B1.out.trans ((B2.out.trans ((B3.out.trans (B4.out.mono B3.out.size)).mono B2.out.size)).mono B1.out.size))
    clear B1 B2 B3 B4
    go_wp2_with fail
    refine (make_any _ _ _ _ _ _ _).mono ?_
    rintro e w5 ⟨rfl, hw5⟩
    have b5 : Below w4.heap.size w4 w5 := by rw [hw5]; exact (Below.refl _ _).alloc (Nat.le_refl _) _
    have x0 : w5.cell? ⟨w4.heap.size, 0, none⟩ = some (.slice a3 n c3) := by rw [hw5]; simp [go_sem]
    have x1 : w5.cell? ⟨w4.heap.size, 1, none⟩ = some (.slice a4 m c4) := by rw [hw5]; simp [go_sem]
    have xlt : w4.heap.size < w5.heap.size := by rw [hw5]; simp
    have G5 := hid (G4.out.later b5 (Nat.le_refl _))
    have X5 := hid (X4.out.later b5 (Nat.le_refl _))
    have O5 := hid (O4.out.later b5 (Nat.le_refl _))
    have Y5 := hid (Y4.out.later b5 (Nat.le_refl _))
    have B5 : Hid (Below w.heap.size w w5) := hid (BB.out.trans (b5.mono BB.out.size))
    generalize hX : w4.heap.size = X at x0 x1 xlt ⊢
    clear G4 X4 O4 Y4 BB hw5 b5 hX
    have Xlt := hid xlt
    have X0 := hid x0
    have X1 := hid x1
    clear x0 x1 xlt
    go_wp2_with fail
    refine (zzAll_any _ _ _ _ _ X0.out hn).mono ?_
    rintro e w6 ⟨rfl, r6, b6⟩
    have R6 := hid r6
    have B6 := hid b6
    clear r6 b6
    go_wp2_with fail
    refine (valid_any _ n _ (IntsV.of_row R6.out) hn).mono ?_
    rintro e w7 ⟨rfl, q7, hw7⟩
    have R7 : Hid (w7.rowIs w5.heap.size 3 n (over 0)) := by rw [hw7, over_zero]; exact R6.out
    have B7 : Hid (Below w5.heap.size w5 w7) := by rw [hw7]; exact below_drewN B6.out q7
    clear hw7 R6 B6
    go_wp2_with fail
    go_loopw [10] (fun i wr => ∃ k : Nat, k ≤ n ∧ i = .int .i64 (k : Int) ∧ wr.rowIs w5.heap.size 3 n (over k) ∧ Below w5.heap.size w5 wr) (fun i _ => n - (intOf i).toNat)
    case atStart => exact ⟨0, Nat.zero_le _, rfl, R7.out, B7.out⟩
    case round =>
    obtain ⟨k2, hk2, rfl, r8, b8⟩ := hrel
    have R8 := hid r8
    have B8 := hid b8
    by_cases hlt2 : k2 < n
    · have e1 := r8.cell hlt2
      have e2 := r8.frozen k2
      clear r8 b8
      go_wp2
      go_roundw
      case rel => exact ⟨k2 + 1, by omega, by go_num, (R8.out.set k2 _).congr (fun j _ => over_succ k2 j), B8.out.setCell (Nat.le_refl _) _⟩
      case measure => simp [intOf]; omega
    · have hk3 : k2 = n := by omega
      subst hk3
      clear r8 b8
      have G8 := hid (G5.out.later B8.out (Nat.le_refl _))
      have X8 := hid (X5.out.later B8.out (Nat.le_refl _))
      have O8 := hid (O5.out.later B8.out (Nat.le_refl _))
      have Y8 := hid (Y5.out.later B8.out (Nat.le_refl _))
      have x80 : wr.cell? ⟨X, 0, none⟩ = some (.slice a3 k2 c3) := by rw [B8.out.cell (p := ⟨X, 0, none⟩) Xlt.out]; exact X0.out
      have x81 : wr.cell? ⟨X, 1, none⟩ = some (.slice a4 m c4) := by rw [B8.out.cell (p := ⟨X, 1, none⟩) Xlt.out]; exact X1.out
      have Z0 := hid x80
      have Z1 := hid x81
      have BW : Hid (Below w.heap.size w wr) := hid (B5.out.trans (B8.out.mono B5.out.size))
      have Xlt8 : Hid (X < wr.heap.size) := hid (Nat.lt_of_lt_of_le Xlt.out B8.out.size)
      clear x80 x81 G5 X5 O5 Y5 X0 X1 B5 B7 R7 Xlt
      generalize hP : w5.heap.size = P at *
      clear hP
      go_wp2_with fail
      refine (zzAll_any _ _ _ _ _ Z0.out hn).mono ?_
      rintro e w9 ⟨rfl, r9, b9⟩
      have R9 := hid r9
      have B9 := hid b9
      clear r9 b9
      go_wp2_with fail
      refine (valid_any _ k2 _ (IntsV.of_row R9.out) hn).mono ?_
      rintro e wa ⟨rfl, qa, hwa⟩
      have Ba : Hid (Below wr.heap.size wr wa) := by rw [hwa]; exact below_drewN B9.out qa
      have Ra : Hid (wa.rowIs P 3 k2 (over k2)) := hid (R8.out.of_block (Ba.out.block _ R8.out.lt))
      have Ga := hid (G8.out.later Ba.out (Nat.le_refl _))
      have Xa := hid (X8.out.later Ba.out (Nat.le_refl _))
      have Oa := hid (O8.out.later Ba.out (Nat.le_refl _))
      have Ya := hid (Y8.out.later Ba.out (Nat.le_refl _))
      have za0 : wa.cell? ⟨X, 0, none⟩ = some (.slice a3 k2 c3) := by rw [Ba.out.cell (p := ⟨X, 0, none⟩) Xlt8.out]; exact Z0.out
      have za1 : wa.cell? ⟨X, 1, none⟩ = some (.slice a4 m c4) := by rw [Ba.out.cell (p := ⟨X, 1, none⟩) Xlt8.out]; exact Z1.out
      have Za0 := hid za0
      have Za1 := hid za1
      have BWa : Hid (Below w.heap.size w wa) := hid (BW.out.trans (Ba.out.mono BW.out.size))
      clear za0 za1 hwa R9 B9 G8 X8 O8 Y8 Z0 Z1 BW R8 B8
      go_wp2_with fail
      go_loop [12] (fun i => ∃ k : Nat, k ≤ k2 ∧ i = .int .i64 (k : Int)) (fun i => k2 - (intOf i).toNat)
      case atStart => exact ⟨0, Nat.zero_le _, rfl⟩
      case round =>
      obtain ⟨k3, hk3, rfl⟩ := hrel
      by_cases hlt3 : k3 < k2
      · have d1 : wa.cell? ⟨P, k3, none⟩ = some (.int .i64 (-1 - (k3 : Int))) := by
          rw [Ra.out.cell hlt3]
          simp [over, hlt3]
        have hne : ((-1 - (k3 : Int)) != (-1 - (k3 : Int))) = false := by simp
        go_wp2
        go_round
        case rel => exact ⟨k3 + 1, by omega, by go_num⟩
        case measure => simp [intOf]; omega
      · go_wp2_with fail
        refine (getOf_any X _ _ Za1.out).mono ?_
        rintro e wb ⟨rfl, rfl⟩
        go_wp2_with fail
        refine (sameInts_any _ _ m g _ Ya.out Oa.out hm).mono ?_
        rintro e wc ⟨rfl, qc, hwc⟩
        have Bc : Hid (Below wa.heap.size wa wc) := by rw [hwc]; exact below_drewN (Below.refl _ _) qc
        have zc0 : wc.cell? ⟨X, 0, none⟩ = some (.slice a3 k2 c3) := by rw [hwc]; exact Za0.out
        have Zc0 := hid zc0
        have Gc := hid (Ga.out.later Bc.out (Nat.le_refl _))
        have Xc := hid (Xa.out.later Bc.out (Nat.le_refl _))
        clear zc0 hwc
        go_wp2_with fail
        refine (getGroups_any X _ _ Zc0.out).mono ?_
        rintro e wd ⟨rfl, rfl⟩
        go_wp2_with fail
        refine (sameGroups_any _ _ k2 l f _ Xc.out Gc.out hn Hl.out).mono ?_
        rintro e we ⟨rfl, qe, hwe⟩
        have BE : Hid (Below w.heap.size w we) := by
          rw [hwe]; exact below_drewN (BWa.out.trans (Bc.out.mono BWa.out.size)) qe
        clear hwe
        go_wp2
        go_ret
        exact ⟨rfl, BE.out⟩
end Go.Proofs.Qxb6617641a
