/-
  A SLICE OF STRINGS, OR OF INTEGERS, THAT CAME IN: what the walks are told of it ('RowIs'), out of its reading.
-/
import Derived.Test.YoefzwRowIs
import Derived.ProofKit
import Derived.OpenShut
import Derived.ShutString
import Derived.ChangeOld
import Derived.Below
import Derived.SliceStrings
namespace Go.Proofs.Yoefzw
open Go.ChangeShapes Go.WideShapes Go.ChangeAt Go.RowKit

theorem own : ownKnob Efzg.prog.godebug = none := by kernel_rfl
theorem laidOut : laidOutB Efzg.prog = true := by kernel_rfl
theorem cells9 : Efzg.prog.cellsOf 9 = 1 := by kernel_rfl
theorem cells2 : Efzg.prog.cellsOf 2 = 1 := by kernel_rfl

theorem row_of {w : World} {a : Addr} {n : Nat} {f : Nat → Value} (h : ∀ i, i < n → w.cell? (a.add i) = some (f i)) : RowIs w w.heap.size (some a) n f := by
  by_cases hn : n = 0
  · exact .inl hn
  · obtain ⟨b, off, spot⟩ := a
    have h0 := h 0 (by omega)
    have hspot : spot = none := by simpa [Addr.add] using World.cell?_spot h0
    subst hspot
    refine .inr ⟨b, off, rfl, ?_, fun k hk => by rw [← Go.WideShapes.add_plain]; exact h k hk⟩
    rw [Go.WideShapes.add_plain] at h0
    exact World.block_lt_of_cell? w ⟨b, off + 0, none⟩ h0

theorem strs_in {H : Type} {enc : TypeId × Value → H} {W : World} {a : Option Addr} {len cap : Nat} {d : DataW H} {p : List MemPlace}
    (h : DataW.Trod enc Efzg.prog W 0 (fun _ => true) true 60 (.slice a len cap) d p) :
    ∃ ks : Nat → ByteArray, len ≤ 9223372036854775807 ∧ (∀ k, k < len → (ks k).size ≤ maxLen) ∧ (a = none → len = 0) ∧ RowIs W W.heap.size a len (fun k => .string (ks k)) := by
  obtain ⟨fuel, hf⟩ := h
  rcases open_strings Efzg.underlying60 Efzg.underlying9 cells9 hf with ⟨hcs, _⟩ | ⟨x, l, c, ss, hcs, _, hl, hm, hz, _, hcell, hws⟩
  · simp [Value.cells] at hcs
    obtain ⟨rfl, rfl, rfl⟩ := hcs
    exact ⟨fun _ => ByteArray.empty, by omega, fun k hk => by omega, fun _ => rfl, .inl rfl⟩
  · simp [Value.cells] at hcs
    obtain ⟨rfl, rfl, rfl⟩ := hcs
    have hz' : ss.length = cap := by simpa using hz
    refine ⟨fun k => ss.getD k ByteArray.empty, by unfold maxLen at hm; omega, fun k hk => ?_, (fun h => by cases h), row_of (fun i hi => hcell i (by omega))⟩
    have hk' : k < ss.length := by omega
    have e : ss.getD k ByteArray.empty = ss[k] := by simp [List.getD, hk']
    show (ss.getD k ByteArray.empty).size ≤ maxLen
    rw [e]
    exact hws _ (List.getElem_mem hk')

theorem ints_in {H : Type} {enc : TypeId × Value → H} {W : World} {a : Option Addr} {len cap : Nat} {d : DataW H} {p : List MemPlace}
    (h : DataW.Trod enc Efzg.prog W 0 (fun _ => true) true 61 (.slice a len cap) d p) :
    ∃ vs : Nat → Int, len ≤ 9223372036854775807 ∧ (a = none → len = 0) ∧ RowIs W W.heap.size a len (fun k => .int .i64 (vs k)) := by
  obtain ⟨fuel, hf⟩ := h
  rcases open_ints Efzg.underlying61 Efzg.underlying2 cells2 hf with ⟨hcs, _⟩ | ⟨x, l, c, zs, hcs, _, hl, hm, hz, _, hcell, hwz⟩
  · simp [Value.cells] at hcs
    obtain ⟨rfl, rfl, rfl⟩ := hcs
    exact ⟨fun _ => 0, by omega, fun _ => rfl, .inl rfl⟩
  · simp [Value.cells] at hcs
    obtain ⟨rfl, rfl, rfl⟩ := hcs
    have hz' : zs.length = cap := by simpa using hz
    exact ⟨fun k => zs.getD k 0, by unfold maxLen at hm; omega, (fun h => by cases h), row_of (fun i hi => hcell i (by omega))⟩

end Go.Proofs.Yoefzw
