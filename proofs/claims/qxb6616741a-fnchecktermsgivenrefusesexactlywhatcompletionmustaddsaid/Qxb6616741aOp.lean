/- FROM THE READING OF THE ARGUMENTS TO WHAT THE WALKS ASK OF MEMORY. -/
import Derived.Test.Qxb6616741aMem
import Derived.ProofKit
import Derived.ChangeArms
namespace Go.Proofs.Qxb6616741a
open Go.RowKit

theorem cells_get {w : World} {base n : Nat} {a : Addr} {xs : List Value} (h : w.cells? base a n = some xs) : xs.length = n ∧ ∀ i, i < n → w.cell? (a.add i) = xs[i]? := by
  unfold World.cells? at h
  split at h
  · exact ⟨by simpa using mapM_some_length h, fun i hi => mapM_some_get h i i (by simp [hi])⟩
  · cases h

theorem add_spot {a : Addr} {i : Nat} (h : (a.add i).spot = none) : a.add i = ⟨a.block, a.off + i, none⟩ := by
  obtain ⟨b, off, spot⟩ := a
  by_cases hi : i = 0
  · subst hi
    have hs : spot = none := by simpa [Addr.add] using h
    subst hs
    simp [Addr.add]
  · simp [Addr.add, hi]

theorem addr_of {w : World} {a : Addr} {i : Nat} {v : Value} (h : w.cell? (a.add i) = some v) : w.cell? ⟨a.block, a.off + i, none⟩ = some v := by
  rw [← add_spot (World.cell?_spot h)]; exact h

theorem add_zero (a : Addr) : a.add 0 = a := by simp [Addr.add]

theorem spot_of {w : World} {a : Addr} {v : Value} (h : w.cell? (a.add 0) = some v) : a = ⟨a.block, a.off, none⟩ := by
  have e := add_spot (World.cell?_spot h)
  rw [add_zero] at e
  simpa using e

theorem one_cell {w : World} {base : Nat} {a : Addr} {xs : List Value} (h : w.cells? base a 1 = some xs) : ∃ c, xs = [c] ∧ w.cell? a = some c := by
  obtain ⟨hl, hg⟩ := cells_get h
  match xs, hl with
  | [c], _ =>
    have h0 := hg 0 (by omega)
    rw [add_zero] at h0
    exact ⟨c, rfl, by simpa using h0⟩

theorem here {w : World} {a : Addr} {c : Value} (h : w.cell? a = some c) : ∃ b off, a = ⟨b, off, none⟩ := by
  obtain ⟨b, off, spot⟩ := a
  have hs : spot = none := by simpa using World.cell?_spot h
  subst hs
  exact ⟨b, off, rfl⟩

theorem two_of {l : List Value} (h : l.length = 2) : ∃ a b, l = [a, b] := by
  match l, h with
  | [a, b], _ => exact ⟨a, b, rfl⟩
theorem ten_of {l : List Value} (h : l.length = 10) : ∃ z0 z1 z2 z3 z4 z5 z6 z7 z8 z9, l = [z0, z1, z2, z3, z4, z5, z6, z7, z8, z9] := by
  match l, h with
  | [z0, z1, z2, z3, z4, z5, z6, z7, z8, z9], _ => exact ⟨z0, z1, z2, z3, z4, z5, z6, z7, z8, z9, rfl⟩

section
variable {H : Type} {enc : TypeId × Value → H} {w : World} {base : Nat} {sp : Nat → Bool} {held : Bool} {n : Nat} {cs : List Value} {x : DataW H × List MemPlace}

theorem Try.cells22 : Try.prog.cellsOf 22 = 1 := by kernel_rfl
theorem Try.cells9 : Try.prog.cellsOf 9 = 1 := by kernel_rfl
theorem Try.cells23 : Try.prog.cellsOf 23 = 1 := by kernel_rfl
theorem Try.cells28 : Try.prog.cellsOf 28 = 1 := by kernel_rfl
theorem Try.cells32 : Try.prog.cellsOf 32 = 1 := by kernel_rfl
theorem Try.cells35 : Try.prog.cellsOf 35 = 1 := by kernel_rfl
theorem Try.cells34 : Try.prog.cellsOf 34 = 2 := by kernel_rfl
theorem Try.cells30 : Try.prog.cellsOf 30 = 10 := by kernel_rfl

theorem rd_strP (h : DataW.trod enc Try.prog w base sp held n 22 cs = some x) : ∃ p, cs = [.pointer p] ∧ StrP w p := by
  rcases DataW.trod_pointer Try.underlying22 h with ⟨h1, _⟩ | ⟨a, cs', y, m, _, h1, _, h2, h3⟩
  · exact ⟨none, h1, .inl rfl⟩
  · rw [Try.cells9] at h2
    obtain ⟨c, rfl, hc⟩ := one_cell h2
    obtain ⟨s, hs, _⟩ := DataW.trod_string Try.underlying9 h3
    simp at hs
    subst hs
    obtain ⟨b, off, rfl⟩ := here hc
    exact ⟨_, h1, .inr ⟨b, off, s, rfl, hc⟩⟩

theorem rd_ptr {t e : TypeId} (hu : Try.prog.underlying t = some (.pointer e)) (h : DataW.trod enc Try.prog w base sp held n t cs = some x) : ∃ p, cs = [.pointer p] := by
  rcases DataW.trod_pointer hu h with ⟨h1, _⟩ | ⟨a, cs', y, m, _, h1, _, h2, h3⟩
  · exact ⟨none, h1⟩
  · exact ⟨some a, h1⟩

theorem maxLen_is {c : Nat} (h : c ≤ maxLen) : c ≤ 9223372036854775807 := by unfold maxLen at h; omega

theorem rd_strs (h : DataW.trod enc Try.prog w base sp held n 35 cs = some x) : ∃ v, cs = [v] ∧ StrsV w v := by
  rcases DataW.trod_slice Try.underlying35 h with ⟨h1, _⟩ | ⟨a, len, cap, elems, rest, m, _, h1, _, _, hlc, hcap, hel, hget, _⟩
  · exact ⟨_, h1, .inl ⟨_, _, rfl⟩⟩
  · have hcap' := maxLen_is hcap
    by_cases h0 : len = 0
    · subst h0
      exact ⟨_, h1, .inl ⟨_, _, rfl⟩⟩
    rw [Try.cells9] at hget
    have hall : ∀ i, i < len → ∃ s, w.cell? (a.add i) = some (.string s) := by
      intro i hi
      have hg := hget i hi
      rw [List.getElem?_eq_getElem (by omega)] at hg
      obtain ⟨xs, hx, hy⟩ := Option.bind_eq_some_iff.1 hg
      obtain ⟨c, rfl, hc⟩ := one_cell hx
      obtain ⟨s, hs, _⟩ := DataW.trod_string Try.underlying9 hy
      simp at hs
      subst hs
      exact ⟨s, by simpa using hc⟩
    obtain ⟨s0, hs0⟩ := hall 0 (by omega)
    have e := spot_of hs0
    refine ⟨_, h1, .inr ⟨a.block, a.off, len, cap, by rw [← e], by omega, fun i hi => ?_⟩⟩
    obtain ⟨s, hs⟩ := hall i hi
    exact ⟨s, addr_of hs⟩

theorem rd_refs (h : DataW.trod enc Try.prog w base sp held n 32 cs = some x) : ∃ v, cs = [v] ∧ RefsV w v := by
  rcases DataW.trod_slice Try.underlying32 h with ⟨h1, _⟩ | ⟨a, len, cap, elems, rest, m, _, h1, _, _, hlc, hcap, hel, hget, _⟩
  · exact ⟨_, h1, .inl ⟨_, _, rfl⟩⟩
  · have hcap' := maxLen_is hcap
    by_cases h0 : len = 0
    · subst h0
      exact ⟨_, h1, .inl ⟨_, _, rfl⟩⟩
    rw [Try.cells35] at hget
    have hall : ∀ i, i < len → ∃ y, w.cell? (a.add i) = some y ∧ StrsV w y := by
      intro i hi
      have hg := hget i hi
      rw [List.getElem?_eq_getElem (by omega)] at hg
      obtain ⟨xs, hx, hy⟩ := Option.bind_eq_some_iff.1 hg
      obtain ⟨c, rfl, hc⟩ := one_cell hx
      obtain ⟨v, hv, hvs⟩ := rd_strs hy
      simp at hv
      subst hv
      exact ⟨_, by simpa using hc, hvs⟩
    obtain ⟨s0, hs0, _⟩ := hall 0 (by omega)
    have e := spot_of hs0
    refine ⟨_, h1, .inr ⟨a.block, a.off, len, cap, by rw [← e], by omega, fun i hi => ?_⟩⟩
    obtain ⟨s, hs, hss⟩ := hall i hi
    exact ⟨s, addr_of hs, hss⟩

theorem rd_floor (h : DataW.trod enc Try.prog w base sp held n 24 cs = some x) : ∃ p, cs = [.pointer p] ∧ FloorP w p := by
  rcases DataW.trod_pointer Try.underlying24 h with ⟨h1, _⟩ | ⟨a, cs', y, m, _, h1, _, h2, h3⟩
  · exact ⟨none, h1, .inl rfl⟩
  · rw [Try.cells34] at h2
    obtain ⟨hl, hg⟩ := cells_get h2
    obtain ⟨xs, k, _, _, hlen, hxs, hf⟩ := DataW.trod_struct Try.underlying34 h3
    obtain ⟨f, r, rfl⟩ := two_of hl
    · simp at hxs
      have g0 : DataW.trod enc Try.prog w base sp held k 22 (([f, r].drop 0).take (Try.prog.cellsOf 22)) = xs[0]? := hf 0 _ rfl
      have g1 : DataW.trod enc Try.prog w base sp held k 32 (([f, r].drop 1).take (Try.prog.cellsOf 32)) = xs[1]? := hf 1 _ rfl
      rw [List.getElem?_eq_getElem (by omega)] at g0 g1
      rw [Try.cells22] at g0
      rw [Try.cells32] at g1
      obtain ⟨p, hp, hsp⟩ := rd_strP g0
      obtain ⟨v, hv, hrv⟩ := rd_refs g1
      simp at hp hv
      subst hp hv
      have c0 := hg 0 (by omega)
      have c1 := hg 1 (by omega)
      simp at c0 c1
      have e := spot_of c0
      exact ⟨some a, h1, .inr ⟨a.block, a.off, _, _, by rw [← e], addr_of c0, addr_of c1, hsp, hrv⟩⟩

theorem rd_limits (h : DataW.trod enc Try.prog w base sp held n 25 cs = some x) : ∃ p, cs = [.pointer p] ∧ LimitsP w p := by
  rcases DataW.trod_pointer Try.underlying25 h with ⟨h1, _⟩ | ⟨a, cs', y, m, _, h1, _, h2, h3⟩
  · exact ⟨none, h1, .inl rfl⟩
  · rw [Try.cells30] at h2
    obtain ⟨hl, hg⟩ := cells_get h2
    obtain ⟨xs, k, _, _, hlen, hxs, hf⟩ := DataW.trod_struct Try.underlying30 h3
    obtain ⟨z0, z1, z2, z3, z4, z5, z6, z7, z8, z9, rfl⟩ := ten_of hl
    · simp at hxs
      have g0 : DataW.trod enc Try.prog w base sp held k 23 (([z0, z1, z2, z3, z4, z5, z6, z7, z8, z9].drop 0).take (Try.prog.cellsOf 23)) = xs[0]? := hf 0 _ rfl
      have g1 : DataW.trod enc Try.prog w base sp held k 23 (([z0, z1, z2, z3, z4, z5, z6, z7, z8, z9].drop 1).take (Try.prog.cellsOf 23)) = xs[1]? := hf 1 _ rfl
      have g2 : DataW.trod enc Try.prog w base sp held k 23 (([z0, z1, z2, z3, z4, z5, z6, z7, z8, z9].drop 2).take (Try.prog.cellsOf 23)) = xs[2]? := hf 2 _ rfl
      have g3 : DataW.trod enc Try.prog w base sp held k 23 (([z0, z1, z2, z3, z4, z5, z6, z7, z8, z9].drop 3).take (Try.prog.cellsOf 23)) = xs[3]? := hf 3 _ rfl
      have g4 : DataW.trod enc Try.prog w base sp held k 22 (([z0, z1, z2, z3, z4, z5, z6, z7, z8, z9].drop 4).take (Try.prog.cellsOf 22)) = xs[4]? := hf 4 _ rfl
      have g5 : DataW.trod enc Try.prog w base sp held k 22 (([z0, z1, z2, z3, z4, z5, z6, z7, z8, z9].drop 5).take (Try.prog.cellsOf 22)) = xs[5]? := hf 5 _ rfl
      have g6 : DataW.trod enc Try.prog w base sp held k 22 (([z0, z1, z2, z3, z4, z5, z6, z7, z8, z9].drop 6).take (Try.prog.cellsOf 22)) = xs[6]? := hf 6 _ rfl
      have g7 : DataW.trod enc Try.prog w base sp held k 28 (([z0, z1, z2, z3, z4, z5, z6, z7, z8, z9].drop 7).take (Try.prog.cellsOf 28)) = xs[7]? := hf 7 _ rfl
      have g8 : DataW.trod enc Try.prog w base sp held k 28 (([z0, z1, z2, z3, z4, z5, z6, z7, z8, z9].drop 8).take (Try.prog.cellsOf 28)) = xs[8]? := hf 8 _ rfl
      have g9 : DataW.trod enc Try.prog w base sp held k 28 (([z0, z1, z2, z3, z4, z5, z6, z7, z8, z9].drop 9).take (Try.prog.cellsOf 28)) = xs[9]? := hf 9 _ rfl
      rw [List.getElem?_eq_getElem (by omega)] at g0 g1 g2 g3 g4 g5 g6 g7 g8 g9
      rw [Try.cells23] at g0 g1 g2 g3
      rw [Try.cells22] at g4 g5 g6
      rw [Try.cells28] at g7 g8 g9
      obtain ⟨q0, e0⟩ := rd_ptr Try.underlying23 g0
      obtain ⟨q1, e1⟩ := rd_ptr Try.underlying23 g1
      obtain ⟨q2, e2⟩ := rd_ptr Try.underlying23 g2
      obtain ⟨q3, e3⟩ := rd_ptr Try.underlying23 g3
      obtain ⟨q4, e4, s4⟩ := rd_strP g4
      obtain ⟨q5, e5, s5⟩ := rd_strP g5
      obtain ⟨q6, e6, s6⟩ := rd_strP g6
      obtain ⟨q7, e7⟩ := rd_ptr Try.underlying28 g7
      obtain ⟨q8, e8⟩ := rd_ptr Try.underlying28 g8
      obtain ⟨q9, e9⟩ := rd_ptr Try.underlying28 g9
      simp at e0 e1 e2 e3 e4 e5 e6 e7 e8 e9
      subst e0 e1 e2 e3 e4 e5 e6 e7 e8 e9
      have c0 := hg 0 (by omega)
      have c1 := hg 1 (by omega)
      have c2 := hg 2 (by omega)
      have c3 := hg 3 (by omega)
      have c4 := hg 4 (by omega)
      have c5 := hg 5 (by omega)
      have c6 := hg 6 (by omega)
      have c7 := hg 7 (by omega)
      have c8 := hg 8 (by omega)
      have c9 := hg 9 (by omega)
      simp at c0 c1 c2 c3 c4 c5 c6 c7 c8 c9
      have e := spot_of c0
      exact ⟨some a, h1, .inr ⟨a.block, a.off, q0, q1, q2, q3, q4, q5, q6, q7, q8, q9, by rw [← e], addr_of c0, addr_of c1, addr_of c2, addr_of c3, addr_of c4, addr_of c5, addr_of c6, addr_of c7, addr_of c8, addr_of c9, s4, s5, s6⟩⟩
end
end Go.Proofs.Qxb6616741a
