/-
  WHERE the bytes of the argument lie.
-/
import Derived.Test.Qxb6602105aDoorWhC
namespace Go.Proofs.Qxb6602105aDoor
open Go.RowKit

abbrev Ok (w : World) (e : Ending) (w' : World) : Prop := e = .returned (.bool true) ∧ Below w.heap.size w w'
/-- Where the bytes of the argument lie. -/
def SrcY (w : World) (a : Option Addr) (pc : Nat) (l : List UInt8) : Prop := (a = none ∧ l = [] ∧ pc = 0) ∨ ∃ ad, a = some ad ∧ (0 < l.length → ∃ b o, ad = ⟨b, o, none⟩ ∧ b < w.heap.size ∧ ∀ j (h : j < l.length), w.cell? ⟨b, o + j, none⟩ = some (.int .u8 (l[j].toNat : Int)))
theorem add_atW (b o j : Nat) : (⟨b, o, none⟩ : Addr).add j = ⟨b, o + j, none⟩ := by
  by_cases e : j = 0
  · subst e; simp [Addr.add]
  · simp [Addr.add, e]
end Go.Proofs.Qxb6602105aDoor
