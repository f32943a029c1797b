/-
  THE WALKS THAT SEVERAL STATEMENTS SHARE: CanIterate, the three methods of the map's iterator as the interface finds them, Next, and Iterate over a nil map.
-/
import Derived.Test.YoefzwRows
import Derived.WalkKit
import Derived.WalkSpells
import Derived.WalkLawsBesides
import Derived.BigQuiet
import Derived.Deep.QuietTactic
namespace Go.Proofs.Yoefzw
open Go.RowKit

theorem method_next (a : Addr) (w : World) : (method 213 79 (.pointer (some a)) "Next").run Efzg.prog w = .ok (74, .pointer (some a)) w := by kernel_rfl
theorem method_key (a : Addr) (w : World) : (method 213 79 (.pointer (some a)) "Key").run Efzg.prog w = .ok (73, .pointer (some a)) w := by kernel_rfl
theorem method_value (a : Addr) (w : World) : (method 213 79 (.pointer (some a)) "Value").run Efzg.prog w = .ok (77, .pointer (some a)) w := by kernel_rfl

theorem can_any (v : Value) (w : World) : Calls Efzg.prog 29 #[v] w fun e w' => e = .returned (.bool true) ∧ w' = w := by
  go_enter Efzg.func29, Efzg.ntmps29
  go_wp2
  go_ret
  exact ⟨rfl, rfl⟩
theorem canM_any (v : Value) (w : World) : Calls Efzg.prog 30 #[v] w fun e w' => e = .returned (.bool true) ∧ w' = w := by
  go_enter Efzg.func30, Efzg.ntmps30
  go_wp2
  go_ret
  exact ⟨rfl, rfl⟩

set_option maxHeartbeats 400000 in
/-- Iterate, where the receiver's map is nil. -/
theorem iterate_nil (b : Nat) (w : World) (hb : b < w.heap.size) (hc : w.cell? ⟨b, 0, none⟩ = some (.map none)) :
    Calls Efzg.prog 24 #[.pointer (some ⟨b, 0, none⟩)] w fun e w' => e = .returned (.iface 79 (.pointer (some ⟨w.heap.size + 1, 0, none⟩))) ∧ w' = (w.alloc (.mapIter none 0 #[] 0)).alloc (.cells #[.map none, .slice none 0 0, .int .i64 0, .int .i64 0] 81) := by
  have hrg := run_range_nilMap (P := Efzg.prog) w 51 9 74 Efzg.underlying51
  have hnx : ∀ ty, (Instr.next (.pointer (some ⟨w.heap.size, 0, none⟩)) false ty).run Efzg.prog (w.alloc (.mapIter none 0 #[] 0)) = _ := fun ty => run_next_nilMap w ty 0 0 #[]
  have hc2 : (w.alloc (.mapIter none 0 #[] 0)).cell? ⟨b, 0, none⟩ = some (.map none) := by
    rw [← hc]; exact World.cell?_of_block (w := w) (Below.heap_alloc _ _ _ hb)
  go_enter Efzg.func24, Efzg.ntmps24
  go_wp2
  refine wp_loop_rounds 1 ?_
  rw [rounds_succ]
  go_wp2
  go_ret
  exact ⟨rfl, rfl⟩

set_option maxHeartbeats 400000 in
/-- Next: the place goes up by one; is it within the length? -/
theorem next_any (b : Nat) (i l : Int) (w : World) (hi : 0 ≤ i ∧ i < 1000000) (hc : w.cell? ⟨b, 2, none⟩ = some (.int .i64 i)) (hl : w.cell? ⟨b, 3, none⟩ = some (.int .i64 l)) (hf : w.frozen? ⟨b, 2, none⟩ = false) :
    Calls Efzg.prog 74 #[.pointer (some ⟨b, 0, none⟩)] w fun e w' => e = .returned (.bool (decide (i + 1 ≤ l))) ∧ ∃ n, w' = (w.setCell ⟨b, 2, none⟩ (.int .i64 (i + 1))).drewN n := by
  go_enter Efzg.func74, Efzg.ntmps74
  go_wp2
  go_quiet (fail)
  go_wp2
  go_ret
  exact ⟨rfl, _, rfl⟩

end Go.Proofs.Yoefzw
