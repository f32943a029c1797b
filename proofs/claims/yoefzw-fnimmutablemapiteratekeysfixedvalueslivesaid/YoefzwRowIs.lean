/-
  A SLICE THAT IS READ, SAID OF CELLS: 'RowIs w B a n f': the n cells from address a on hold f 0, f 1, ..; they lie in a block below B. Where n is 0 nothing is said of a.
-/
import Derived.Test.YoefzwRows
import Derived.WalkKit
import Derived.WalkSpells
import Derived.WalkLawsBesides
import Derived.BigQuiet
import Derived.Deep.QuietTactic
namespace Go.Proofs.Yoefzw
open Go.RowKit

def RowIs (w : World) (B : Nat) (a : Option Addr) (n : Nat) (f : Nat → Value) : Prop :=
  n = 0 ∨ ∃ b off, a = some ⟨b, off, none⟩ ∧ b < B ∧ ∀ k, k < n → w.cell? ⟨b, off + k, none⟩ = some (f k)

theorem RowIs.below {w w' : World} {B : Nat} {a : Option Addr} {n : Nat} {f : Nat → Value} (h : RowIs w B a n f) (hb : Below B w w') : RowIs w' B a n f := by
  rcases h with h | ⟨b, off, h1, h2, h3⟩
  · exact .inl h
  · exact .inr ⟨b, off, h1, h2, fun k hk => by rw [hb.cell (p := ⟨b, off + k, none⟩) h2]; exact h3 k hk⟩

theorem RowIs.mono {w : World} {B B' : Nat} {a : Option Addr} {n : Nat} {f : Nat → Value} (h : RowIs w B a n f) (hB : B ≤ B') : RowIs w B' a n f := by
  rcases h with h | ⟨b, off, h1, h2, h3⟩
  · exact .inl h
  · exact .inr ⟨b, off, h1, by omega, h3⟩

/-- The two shapes that a walk meets. -/
theorem RowIs.parts {w : World} {B : Nat} {a : Option Addr} {n : Nat} {f : Nat → Value} (h : RowIs w B a n f) :
    n = 0 ∨ ∃ b off, a = some ⟨b, off, none⟩ ∧ b < B ∧ ∀ k, k < n → w.cell? ⟨b, off + k, none⟩ = some (f k) := h

theorem below_of_grown {w w' : World} {B : Nat} {row : Option Nat} (hg : w.grownBy w' row) (hB : B ≤ w.heap.size) (hr : ∀ k, row = some k → B ≤ k) : Below B w w' :=
  (Below.refl B w).grown hg hB hr

end Go.Proofs.Yoefzw
