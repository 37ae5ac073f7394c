/-
  Seat b6617428a: how a list of steps and a path lie in memory.
-/
import Derived.Test.Qxb6617428aRows
import Derived.WalkKit
import Derived.ProofKit
import Derived.ShutString
import Derived.Below
import Derived.WalkLawsBesides
import Derived.Outline
namespace Go.Proofs.Qxb6617428a
open Go.RowKit

/-- One step as plain data. -/
structure Step where
  name : ByteArray
  sub : Bool
  key : Bool

/-- A slice of steps that came in: its first 'S.length' elements lie, three cells each, behind its address. -/
structure IsSteps (w : World) (a : Option Addr) (S : List Step) : Prop where
  len : S.length ≤ maxLen
  bound : ∀ s ∈ S, s.name.size ≤ maxLen
  cells : ∀ i s, S[i]? = some s → ∃ b off, a = some ⟨b, off, none⟩ ∧ w.cell? ⟨b, off + i * 3, none⟩ = some (.string s.name) ∧ w.cell? ⟨b, off + i * 3 + 1, none⟩ = some (.bool s.sub) ∧ w.cell? ⟨b, off + i * 3 + 2, none⟩ = some (.bool s.key)

theorem cell_lt {w : World} {a : Addr} {v : Value} (h : w.cell? a = some v) : a.block < w.heap.size := by
  by_cases hb : a.block < w.heap.size
  · exact hb
  · simp [World.cell?, Array.getElem?_eq_none (by omega : w.heap.size ≤ a.block)] at h

theorem cell_below {w w' : World} (hb : Below w.heap.size w w') {a : Addr} {v : Value} (h : w.cell? a = some v) : w'.cell? a = some v := by
  rw [hb.cell (cell_lt h)]; exact h

theorem IsSteps.below {w w' : World} {a : Option Addr} {S : List Step} (h : IsSteps w a S) (hb : Below w.heap.size w w') : IsSteps w' a S :=
  ⟨h.len, h.bound, fun i s hi => by
    obtain ⟨b, off, ha, h0, h1, h2⟩ := h.cells i s hi
    exact ⟨b, off, ha, cell_below hb h0, cell_below hb h1, cell_below hb h2⟩⟩

end Go.Proofs.Qxb6617428a
