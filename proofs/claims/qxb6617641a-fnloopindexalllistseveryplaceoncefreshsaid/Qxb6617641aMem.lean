/- WHAT THE SLICES HOLD, as far as the walks of seat b6617641a ask. -/
import Derived.Test.Qxb6617641aRows
import Derived.WalkKit
import Derived.WalkSpells
import Derived.WalkLawsBesides
import Derived.Below
import Derived.Deep.OwnRows
import Derived.Deep.RegionHeld3
import Derived.Deep.DeepCutAuto
import Derived.Deep.QuietTactic
import Derived.BigQuiet
namespace Go.Proofs.Qxb6617641a
open Go.RowKit

theorem hid {p : Prop} (h : p) : Hid p := h
theorem ret_bool {a b : Bool} (h : a = b) : Ending.returned (.bool a) = .returned (.bool b) := by rw [h]

/-- A slice of n ints, element i being 'f i'. -/
def IntsV (w : World) (v : Value) (n : Nat) (f : Nat → Int) : Prop :=
  (v = .slice none 0 0 ∧ n = 0) ∨ (∃ a c, v = .slice (some a) 0 c ∧ n = 0) ∨
  (0 < n ∧ ∃ b off c, v = .slice (some ⟨b, off, none⟩) n c ∧ b < w.heap.size ∧ ∀ i, i < n → w.cell? ⟨b, off + i, none⟩ = some (.int .i64 (f i)))

/-- A slice of n slices of ints, of lengths 'l i' and elements 'f i j'. -/
def GroupsV (w : World) (v : Value) (n : Nat) (l : Nat → Nat) (f : Nat → Nat → Int) : Prop :=
  (v = .slice none 0 0 ∧ n = 0) ∨ (∃ a c, v = .slice (some a) 0 c ∧ n = 0) ∨
  (0 < n ∧ ∃ b off c, v = .slice (some ⟨b, off, none⟩) n c ∧ b < w.heap.size ∧ ∀ i, i < n → ∃ x, w.cell? ⟨b, off + i, none⟩ = some x ∧ IntsV w x (l i) (f i))

theorem IntsV.later {w w' : World} {v : Value} {n : Nat} {f : Nat → Int} {B : Nat} (h : IntsV w v n f) (hb : Below B w w') (hB : w.heap.size ≤ B) : IntsV w' v n f := by
  rcases h with h | h | ⟨h0, b, off, c, h1, h2, h3⟩
  · exact .inl h
  · exact .inr (.inl h)
  · exact .inr (.inr ⟨h0, b, off, c, h1, Nat.lt_of_lt_of_le h2 hb.size, fun i hi => by rw [hb.cell (p := ⟨b, off + i, none⟩) (Nat.lt_of_lt_of_le h2 hB)]; exact h3 i hi⟩)

theorem GroupsV.later {w w' : World} {v : Value} {n : Nat} {l : Nat → Nat} {f : Nat → Nat → Int} {B : Nat} (h : GroupsV w v n l f) (hb : Below B w w') (hB : w.heap.size ≤ B) : GroupsV w' v n l f := by
  rcases h with h | h | ⟨h0, b, off, c, h1, h2, h3⟩
  · exact .inl h
  · exact .inr (.inl h)
  · refine .inr (.inr ⟨h0, b, off, c, h1, Nat.lt_of_lt_of_le h2 hb.size, fun i hi => ?_⟩)
    obtain ⟨x, hx, hv⟩ := h3 i hi
    exact ⟨x, by rw [hb.cell (p := ⟨b, off + i, none⟩) (Nat.lt_of_lt_of_le h2 hB)]; exact hx, hv.later hb hB⟩

/-- The value is a slice of length n. -/
theorem IntsV.len {w : World} {v : Value} {n : Nat} {f : Nat → Int} (h : IntsV w v n f) : ∃ a c, v = .slice a n c := by
  rcases h with ⟨h, rfl⟩ | ⟨a, c, h, rfl⟩ | ⟨_, b, off, c, h, _⟩
  · exact ⟨_, _, h⟩
  · exact ⟨_, _, h⟩
  · exact ⟨_, _, h⟩
theorem GroupsV.len {w : World} {v : Value} {n : Nat} {l : Nat → Nat} {f : Nat → Nat → Int} (h : GroupsV w v n l f) : ∃ a c, v = .slice a n c := by
  rcases h with ⟨h, rfl⟩ | ⟨a, c, h, rfl⟩ | ⟨_, b, off, c, h, _⟩
  · exact ⟨_, _, h⟩
  · exact ⟨_, _, h⟩
  · exact ⟨_, _, h⟩

theorem IntsV.of_row {w : World} {b n c : Nat} {f : Nat → Int} (h : w.rowIs b 3 n (fun i => .int .i64 (f i))) : IntsV w (.slice (some ⟨b, 0, none⟩) n c) n f := by
  by_cases h0 : n = 0
  · subst h0
    exact .inr (.inl ⟨_, _, rfl, rfl⟩)
  · exact .inr (.inr ⟨by omega, b, 0, c, rfl, h.lt, fun i hi => by simpa using h.cell hi⟩)

/-- The slice lies from block B on. -/
def FreshFrom (B : Nat) (v : Value) : Prop := ∀ a n c, v = .slice (some a) n c → B ≤ a.block
theorem FreshFrom.nil (B n c : Nat) : FreshFrom B (.slice none n c) := fun _ _ _ h => by simp at h
theorem FreshFrom.at {B b : Nat} (h : B ≤ b) (off n c : Nat) : FreshFrom B (.slice (some ⟨b, off, none⟩) n c) := fun a n' c' e => by
  simp at e; obtain ⟨rfl, _⟩ := e; exact h
theorem FreshFrom.mono {B B' : Nat} {v : Value} (h : FreshFrom B v) (hB : B' ≤ B) : FreshFrom B' v := fun a n c e => Nat.le_trans hB (h a n c e)

theorem IntsV.setCell {w : World} {v : Value} {n : Nat} {f : Nat → Int} {b i : Nat} (h : IntsV w v n f) (hf : FreshFrom (b + 1) v) (x : Value) : IntsV (w.setCell ⟨b, i, none⟩ x) v n f := by
  rcases h with h | h | ⟨h0, b', off, c, h1, h2, h3⟩
  · exact .inl h
  · exact .inr (.inl h)
  · have hne : b + 1 ≤ b' := hf _ _ _ h1
    refine .inr (.inr ⟨h0, b', off, c, h1, by simpa using h2, fun i hi => ?_⟩)
    rw [World.cell?_setCell_far _ _ _ _ (by simp; omega)]
    exact h3 i hi

theorem Try.info3 : (Try.prog.info? 3).map (fun i => (i.zero, i.size, i.bytes)) = some (some (.int .i64 0), 1, 8) := by kernel_rfl
theorem Try.info23 : (Try.prog.info? 23).map (fun i => (i.zero, i.size, i.bytes)) = some (some (.slice none 0 0), 1, 24) := by kernel_rfl
end Go.Proofs.Qxb6617641a
