/- WHAT THE ARGUMENTS' MEMORY LOOKS LIKE, as far as the walks of zzTermsTooBig and zzBytes_.. ask. -/
import Derived.Test.Qxb6616741aRows
import Derived.WalkKit
import Derived.Below
namespace Go.Proofs.Qxb6616741a
open Go.RowKit

/-- A pointer to a string, or nil. -/
def StrP (w : World) (p : Option Addr) : Prop := p = none ∨ ∃ b off s, p = some ⟨b, off, none⟩ ∧ w.cell? ⟨b, off, none⟩ = some (.string s)

/-- A slice of strings. -/
def StrsV (w : World) (v : Value) : Prop := (∃ a c, v = .slice a 0 c) ∨ ∃ b off n c, v = .slice (some ⟨b, off, none⟩) n c ∧ n ≤ 9223372036854775807 ∧ ∀ i, i < n → ∃ s, w.cell? ⟨b, off + i, none⟩ = some (.string s)

/-- A slice of slices of strings. -/
def RefsV (w : World) (v : Value) : Prop := (∃ a c, v = .slice a 0 c) ∨ ∃ b off n c, v = .slice (some ⟨b, off, none⟩) n c ∧ n ≤ 9223372036854775807 ∧ ∀ i, i < n → ∃ x, w.cell? ⟨b, off + i, none⟩ = some x ∧ StrsV w x

/-- A pointer to a TermsPriceFloor, or nil. -/
def FloorP (w : World) (p : Option Addr) : Prop := p = none ∨ ∃ b off f r, p = some ⟨b, off, none⟩ ∧ w.cell? ⟨b, off, none⟩ = some (.pointer f) ∧ w.cell? ⟨b, off + 1, none⟩ = some r ∧ StrP w f ∧ RefsV w r

/-- A pointer to a TermsLimits, or nil. -/
def LimitsP (w : World) (p : Option Addr) : Prop := p = none ∨ ∃ b off q0 q1 q2 q3 q4 q5 q6 q7 q8 q9, p = some ⟨b, off, none⟩ ∧
  w.cell? ⟨b, off, none⟩ = some (.pointer q0) ∧ w.cell? ⟨b, off + 1, none⟩ = some (.pointer q1) ∧ w.cell? ⟨b, off + 2, none⟩ = some (.pointer q2) ∧ w.cell? ⟨b, off + 3, none⟩ = some (.pointer q3) ∧ w.cell? ⟨b, off + 4, none⟩ = some (.pointer q4) ∧
  w.cell? ⟨b, off + 5, none⟩ = some (.pointer q5) ∧ w.cell? ⟨b, off + 6, none⟩ = some (.pointer q6) ∧ w.cell? ⟨b, off + 7, none⟩ = some (.pointer q7) ∧ w.cell? ⟨b, off + 8, none⟩ = some (.pointer q8) ∧ w.cell? ⟨b, off + 9, none⟩ = some (.pointer q9) ∧
  StrP w q4 ∧ StrP w q5 ∧ StrP w q6

theorem hid {p : Prop} (h : p) : Hid p := h
end Go.Proofs.Qxb6616741a
