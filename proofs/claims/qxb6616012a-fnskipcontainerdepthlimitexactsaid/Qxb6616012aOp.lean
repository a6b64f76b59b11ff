/- FROM THE READING OF THE ARGUMENTS TO WHAT THE WALKS ASK OF MEMORY. -/
import Derived.Test.Qxb6616012aLa
import Derived.ProofKit
import Derived.ChangeArms
namespace Go.Proofs.Qxb6616012a
open Go.RowKit

theorem cells_get {w : World} {base n : Nat} {a : Addr} {xs : List Value} (h : w.cells? base a n = some xs) : xs.length = n ∧ ∀ i, i < n → w.cell? (a.add i) = xs[i]? := by
  unfold World.cells? at h
  split at h
  · exact ⟨by simpa using mapM_some_length h, fun i hi => mapM_some_get h i i (by simp [hi])⟩
  · cases h

theorem add_spot {a : Addr} {i : Nat} (h : (a.add i).spot = none) : a.add i = ⟨a.block, a.off + i, none⟩ := by
  obtain ⟨b, off, spot⟩ := a
  by_cases hi : i = 0
  · subst hi
    have hs : spot = none := by simpa [Addr.add] using h
    subst hs
    simp [Addr.add]
  · simp [Addr.add, hi]

theorem addr_of {w : World} {a : Addr} {i : Nat} {v : Value} (h : w.cell? (a.add i) = some v) : w.cell? ⟨a.block, a.off + i, none⟩ = some v := by
  rw [← add_spot (World.cell?_spot h)]; exact h

theorem add_zero (a : Addr) : a.add 0 = a := by simp [Addr.add]

theorem spot_of {w : World} {a : Addr} {v : Value} (h : w.cell? (a.add 0) = some v) : a = ⟨a.block, a.off, none⟩ := by
  have e := add_spot (World.cell?_spot h)
  rw [add_zero] at e
  simpa using e

theorem one_cell {w : World} {base : Nat} {a : Addr} {xs : List Value} (h : w.cells? base a 1 = some xs) : ∃ c, xs = [c] ∧ w.cell? a = some c := by
  obtain ⟨hl, hg⟩ := cells_get h
  match xs, hl with
  | [c], _ =>
    have h0 := hg 0 (by omega)
    rw [add_zero] at h0
    exact ⟨c, rfl, by simpa using h0⟩

section
variable {H : Type} {enc : TypeId × Value → H} {w : World} {base : Nat} {sp : Nat → Bool} {held : Bool} {n : Nat} {cs : List Value} {x : DataW H × List MemPlace}

theorem Try.cells4 : Try.prog.cellsOf 4 = 1 := by kernel_rfl
theorem maxLen_is {c : Nat} (h : c ≤ maxLen) : c ≤ 9223372036854775807 := by unfold maxLen at h; omega

/-- choice over an initial segment -/
theorem choose_below {α : Type} (d : α) {P : Nat → α → Prop} {m : Nat} (h : ∀ i, i < m → ∃ y, P i y) : ∃ f : Nat → α, ∀ i, i < m → P i (f i) := by
  induction m with
  | zero => exact ⟨fun _ => d, fun i hi => by omega⟩
  | succ k ih =>
    obtain ⟨f, hf⟩ := ih (fun i hi => h i (by omega))
    obtain ⟨y, hy⟩ := h k (by omega)
    refine ⟨fun i => if i = k then y else f i, fun i hi => ?_⟩
    by_cases e : i = k
    · subst e; simpa using hy
    · simpa [e] using hf i (by omega)

theorem rd_kinds (h : DataW.trod enc Try.prog w base sp held n 34 cs = some x) : ∃ v m k, cs = [v] ∧ m ≤ 9223372036854775807 ∧ KindsV w v m k := by
  rcases DataW.trod_slice Try.underlying34 h with ⟨h1, _⟩ | ⟨a, len, cap, elems, rest, m, _, h1, _, _, hlc, hcap, hel, hget, _⟩
  · exact ⟨_, 0, fun _ => false, h1, by omega, .inl ⟨_, _, rfl, rfl⟩⟩
  · have hcap' := maxLen_is hcap
    by_cases h0 : len = 0
    · subst h0
      exact ⟨_, 0, fun _ => false, h1, by omega, .inl ⟨_, _, rfl, rfl⟩⟩
    rw [Try.cells4] at hget
    have hall : ∀ i, i < len → ∃ z, w.cell? (a.add i) = some (.bool z) := by
      intro i hi
      have hg := hget i hi
      rw [List.getElem?_eq_getElem (by omega)] at hg
      obtain ⟨xs, hx, hy⟩ := Option.bind_eq_some_iff.1 hg
      obtain ⟨c, rfl, hc⟩ := one_cell hx
      obtain ⟨z, hz, _⟩ := DataW.trod_bool Try.underlying4 hy
      simp at hz
      subst hz
      exact ⟨z, by simpa using hc⟩
    obtain ⟨f, hf⟩ := choose_below false hall
    have hs0 := hf 0 (by omega)
    have e := spot_of hs0
    exact ⟨_, len, f, h1, by omega, .inr ⟨by omega, a.block, a.off, cap, by rw [← e], by have hh := World.block_lt_of_cell? w _ (addr_of hs0); exact hh, fun i hi => addr_of (hf i hi)⟩⟩
end
end Go.Proofs.Qxb6616012a
