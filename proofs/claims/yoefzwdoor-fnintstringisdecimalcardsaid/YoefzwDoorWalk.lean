/-
  THE WALK OF FnIntStringIsDecimal: Int.String by strconv.FormatInt's contract off the shelf; zzDecimal by its own walk.
-/
import Derived.Test.YoefzwDoorDecimal
import Derived.Test.YoefzwDoorShelf
import Derived.WalkSmall
namespace Go.Proofs.YoefzwDoor
open Go.RowKit

/-- The table that strconv.FormatInt reads, by its name as the row's cell 'named' has it. -/
def tabName : String := Rows.fnIntStringIsDecimalRow.named.headD ""

theorem gTab : Efzg.prog.globalNamed tabName = some 0 := by kernel_rfl

theorem formatInt (n : Int) (h0 : -9223372036854775808 ≤ n) (h1 : n ≤ 9223372036854775807) (w : World) (htab : Lib.TabIs Efzg.prog w tabName .u64 Lib.pow10Tab) :
    Calls Efzg.prog 8 #[.int .i64 n, .int .i64 10] w fun e w' => e = .returned (.string ⟨(Lib.itoa n).toArray⟩) ∧ Below w.heap.size w w' := by
  refine (Any.strconv_FormatInt_10 laysM173 n h0 h1 w htab).mono ?_
  rintro e w' ⟨rfl, k, os, rfl⟩
  refine ⟨rfl, rfl, rfl, rfl, ?_, fun j hj => ?_⟩
  · simp [Sort.grow, World.drewN]
  · show (w.heap ++ os)[j]? = w.heap[j]?
    rw [Array.getElem?_append_left hj]

/-- The table stands behind a new block. -/
theorem tab_alloc {w : World} (h : Lib.TabIs Efzg.prog w tabName .u64 Lib.pow10Tab) (o : Obj) : Lib.TabIs Efzg.prog (w.alloc o) tabName .u64 Lib.pow10Tab :=
  var?_below ((Below.refl w.heap.size w).alloc (Nat.le_refl _) o) gTab (World.block_lt_of_cell? w _ (h.cell gTab 0 (by decide))) h

set_option maxHeartbeats 400000 in
theorem string_any (b : Nat) (v : Int) (h0 : -9223372036854775808 ≤ v) (h1 : v ≤ 9223372036854775807) (w : World) (hc : w.cell? ⟨b, 0, none⟩ = some (.int .i64 v)) (htab : Lib.TabIs Efzg.prog w tabName .u64 Lib.pow10Tab) :
    Calls Efzg.prog 5 #[.pointer (some ⟨b, 0, none⟩)] w fun e w' => e = .returned (.string ⟨(Lib.itoa v).toArray⟩) ∧ Below w.heap.size w w' := by
  have HF := formatInt v h0 h1 w htab
  clear htab
  go_enter Efzg.func5, Efzg.ntmps5
  go_wp2_with (go_at_call 8; refine HF.mono ?_; rintro e w1 ⟨rfl, hb⟩)
  go_ret
  exact ⟨rfl, hb⟩

set_option maxHeartbeats 400000 in
theorem walk (v : Int) (h0 : -9223372036854775808 ≤ v) (h1 : v ≤ 9223372036854775807) (w : World) (htab : Lib.TabIs Efzg.prog w tabName .u64 Lib.pow10Tab) :
    Calls Efzg.prog 3 #[.int .i64 v] w fun e w' => e = .returned (.bool true) ∧ Below w.heap.size w w' := by
  have HS := string_any w.heap.size v h0 h1 (w.alloc (.cells #[.int .i64 v] 26)) (by simp) (tab_alloc htab _)
  clear htab
  go_enter Efzg.func3, Efzg.ntmps3
  go_wp2_with (first
    | (go_at_call 5; refine HS.mono ?_; rintro e w1 ⟨rfl, hb1⟩)
    | (go_at_call 6; refine (decimal_any v _ h0 h1).mono ?_; rintro e w2 ⟨rfl, hb2⟩))
  go_ret
  have b1 : Below w.heap.size w w1 := ((Below.refl _ w).alloc (Nat.le_refl _) _).trans (hb1.mono (by simp))
  exact ⟨by simp, b1.trans (hb2.mono b1.size)⟩

end Go.Proofs.YoefzwDoor
