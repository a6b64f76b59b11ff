/- THE SPLITTER IN MEMORY, as the walks of seat b6616012a ask. -/
import Derived.Test.Qxb6616012aRows
import Derived.WalkKit
import Derived.WalkSpells
import Derived.WalkLawsBesides
import Derived.Below
import Derived.Deep.OwnRows
import Derived.Deep.RegionHeld3
import Derived.Deep.DeepCutAuto
import Derived.Deep.QuietTactic
import Derived.BigQuiet
namespace Go.Proofs.Qxb6616012a
open Go.RowKit

theorem hid {p : Prop} (h : p) : Hid p := h
theorem ret_bool {a b : Bool} (h : a = b) : Ending.returned (.bool a) = .returned (.bool b) := by rw [h]

/-- A splitter in block S over the N bytes 'bt' in block D, standing at 'p', inside 'dep' containers; nothing has failed. -/
structure St (w : World) (S D N C : Nat) (bt : Nat → Int) (p dep : Nat) : Prop where
  c0 : w.cell? ⟨S, 0, none⟩ = some (.slice (some ⟨D, 0, none⟩) N C)
  c1 : w.cell? ⟨S, 1, none⟩ = some (.int .i64 (p : Int))
  c2 : w.cell? ⟨S, 2, none⟩ = some (.int .i64 (dep : Int))
  c3 : w.cell? ⟨S, 3, none⟩ = some (.bool false)
  f1 : w.frozen? ⟨S, 1, none⟩ = false
  ne : D ≠ S
  le : N ≤ C
  bytes : ∀ i, i < N → w.cell? ⟨D, i, none⟩ = some (.int .u8 (bt i))

/-- Nothing but block S has turned, and nothing is new. -/
structure Mv (S : Nat) (w w' : World) : Prop where
  os : w'.os = w.os
  tape : w'.tape = w.tape
  output : w'.output = w.output
  size : w'.heap.size = w.heap.size
  block : ∀ k, k ≠ S → w'.heap[k]? = w.heap[k]?

theorem Mv.refl (S : Nat) (w : World) : Mv S w w := ⟨rfl, rfl, rfl, rfl, fun _ _ => rfl⟩
theorem Mv.trans {S : Nat} {a b c : World} (h : Mv S a b) (k : Mv S b c) : Mv S a c :=
  ⟨k.os.trans h.os, k.tape.trans h.tape, k.output.trans h.output, k.size.trans h.size, fun i hi => (k.block i hi).trans (h.block i hi)⟩
theorem Mv.drewN {S : Nat} {a b : World} (h : Mv S a b) (q : Nat) : Mv S a (b.drewN q) := ⟨h.os, h.tape, h.output, h.size, h.block⟩
theorem Mv.set {S : Nat} {a b : World} (h : Mv S a b) (i : Nat) (v : Value) : Mv S a (b.setCell ⟨S, i, none⟩ v) :=
  ⟨h.os, h.tape, h.output, by simpa using h.size, fun k hk => (Deep.blk_setCell_other b ⟨S, i, none⟩ v k hk).trans (h.block k hk)⟩

theorem St.drewN {w : World} {S D N C : Nat} {bt : Nat → Int} {p dep : Nat} (h : St w S D N C bt p dep) (q : Nat) : St (w.drewN q) S D N C bt p dep :=
  ⟨h.c0, h.c1, h.c2, h.c3, h.f1, h.ne, h.le, h.bytes⟩

theorem frozen_set (w : World) (a b : Addr) (v : Value) : (w.setCell a v).frozen? b = w.frozen? b := by simp [go_sem]

theorem cell_set_same {w : World} {a : Addr} {u : Value} (h : w.cell? a = some u) (v : Value) : (w.setCell a v).cell? a = some v :=
  World.cell?_setCell_same' w a v (by rw [h]; rfl)

theorem cell_set_off {w : World} {S i j : Nat} (h : i ≠ j) (v : Value) : (w.setCell ⟨S, i, none⟩ v).cell? ⟨S, j, none⟩ = w.cell? ⟨S, j, none⟩ := by
  apply World.cell?_setCell_other
  intro e
  simp at e

theorem St.move {w : World} {S D N C : Nat} {bt : Nat → Int} {p dep : Nat} (h : St w S D N C bt p dep) (p' : Nat) : St (w.setCell ⟨S, 1, none⟩ (.int .i64 (p' : Int))) S D N C bt p' dep := by
  refine ⟨?_, ?_, ?_, ?_, ?_, h.ne, h.le, fun i hi => ?_⟩
  · rw [cell_set_off (by decide)]; exact h.c0
  · exact cell_set_same h.c1 _
  · rw [cell_set_off (by decide)]; exact h.c2
  · rw [cell_set_off (by decide)]; exact h.c3
  · rw [frozen_set]; exact h.f1
  · rw [World.cell?_setCell_far _ _ _ _ (fun e => h.ne e.symm)]; exact h.bytes i hi

theorem St.step {w : World} {S D N C : Nat} {bt : Nat → Int} {p dep : Nat} (h : St w S D N C bt p dep) : St (w.setCell ⟨S, 1, none⟩ (.int .i64 ((p : Int) + 1))) S D N C bt (p + 1) dep := by
  have := h.move (p + 1)
  have e : ((p + 1 : Nat) : Int) = (p : Int) + 1 := by omega
  rw [e] at this
  exact this
end Go.Proofs.Qxb6616012a
