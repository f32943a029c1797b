/-
  THE WALKS OF THE ITERATOR's Key AND Value AND OF String.Equals, Int.Equals.
-/
import Derived.Test.YoefzwMaps
namespace Go.Proofs.Yoefzw
open Go.RowKit Go.Maps Go.WideMaps

theorem MapOf.drewN {w : World} {bm n : Nat} {F : List UInt8 → Option Int} (h : MapOf w bm n F) (k : Nat) : MapOf (w.drewN k) bm n F := h.grown (grownBy_drewN w k none)

set_option maxRecDepth 100000 in
set_option maxHeartbeats 400000 in
/-- Key, the iterator standing at place i. -/
theorem key_any (it : Nat) (a : Option Addr) (n c i : Nat) (s : Nat → ByteArray) (w : World) (hn : n ≤ 1024) (hi : i < n) (h1 : w.cell? ⟨it, 1, none⟩ = some (.slice a n c)) (h2 : w.cell? ⟨it, 2, none⟩ = some (.int .i64 ((i : Int) + 1)))
    (hr : RowIs w it a n (fun k => .string (s k))) :
    Calls Efzg.prog 73 #[.pointer (some ⟨it, 0, none⟩)] w fun e w' => e = .returned (.iface 35 (.pointer (some ⟨w.heap.size, 0, none⟩))) ∧ ∃ nq, w' = (w.alloc (.cells #[.string (s i), .slice none 0 0] 39)).drewN nq := by
  rcases hr with h0 | ⟨b, off, rfl, _, hc⟩
  · omega
  have hci := hc i hi
  have hlo : (0 : Int) ≤ (i : Int) := by omega
  have hhi : (i : Int) < (n : Int) := by omega
  have e1 : (i : Int) + 1 - 1 = (i : Int) := by omega
  clear hc
  go_enter Efzg.func73, Efzg.ntmps73
  go_wp2
  go_quiet (fail)
  go_wp2
  go_ret
  exact ⟨rfl, _, rfl⟩

set_option maxRecDepth 100000 in
set_option maxHeartbeats 400000 in
/-- Value, the iterator standing at place i: what the map holds NOW at that key. -/
theorem value_any (it bm N : Nat) (F : List UInt8 → Option Int) (a : Option Addr) (n c i : Nat) (s : Nat → ByteArray) (v : Int) (w : World) (hn : n ≤ 1024) (hi : i < n) (h0 : w.cell? ⟨it, 0, none⟩ = some (.map (some bm))) (h1 : w.cell? ⟨it, 1, none⟩ = some (.slice a n c)) (h2 : w.cell? ⟨it, 2, none⟩ = some (.int .i64 ((i : Int) + 1)))
    (hr : RowIs w it a n (fun k => .string (s k))) (hm : MapOf w bm N F) (hs : (s i).size ≤ maxLen) (hv : F (s i).data.toList = some v) :
    Calls Efzg.prog 77 #[.pointer (some ⟨it, 0, none⟩)] w fun e w' => ∃ b nq, e = .returned (.iface 22 (.pointer (some ⟨b, 0, none⟩))) ∧ w.cell? ⟨b, 0, none⟩ = some (.int .i64 v) ∧ w' = w.drewN nq := by
  rcases hr with h3 | ⟨b, off, rfl, _, hc⟩
  · omega
  have hci := hc i hi
  have hlo : (0 : Int) ≤ (i : Int) := by omega
  have hhi : (i : Int) < (n : Int) := by omega
  have e1 : (i : Int) + 1 - 1 = (i : Int) := by omega
  clear hc
  go_enter Efzg.func77, Efzg.ntmps77
  go_wp2
  go_quiet (fail)
  obtain ⟨b', hrun, hcb⟩ := (hm.drewN nq).lookup hs hv
  have HB : Hid (w.cell? ⟨b', 0, none⟩ = some (.int .i64 v)) := hcb
  clear hcb hm hv
  go_wp2
  go_ret
  exact ⟨b', nq, rfl, HB.out, rfl⟩

theorem assertS (a : Addr) (w : World) : (Instr.typeAssert (.iface 35 (.pointer (some a))) 74 35 true).run Efzg.prog w = .ok (.tuple #[.pointer (some a), .bool true]) w := by kernel_rfl
theorem assertI (a : Addr) (w : World) : (Instr.typeAssert (.iface 22 (.pointer (some a))) 74 22 true).run Efzg.prog w = .ok (.tuple #[.pointer (some a), .bool true]) w := by kernel_rfl

set_option maxRecDepth 100000 in
set_option maxHeartbeats 400000 in
theorem equalsS (p q : Nat) (s t : ByteArray) (w : World) (h1 : w.cell? ⟨p, 0, none⟩ = some (.string s)) (h2 : w.cell? ⟨q, 0, none⟩ = some (.string t)) :
    Calls Efzg.prog 32 #[.pointer (some ⟨p, 0, none⟩), .iface 35 (.pointer (some ⟨q, 0, none⟩))] w fun e w' => e = .returned (.bool (s.toList == t.toList)) ∧ ∃ nq, w' = w.drewN nq := by
  have ha := assertS
  go_enter Efzg.func32, Efzg.ntmps32
  go_wp2
  go_quiet (fail)
  go_wp2
  go_ret
  exact ⟨rfl, _, rfl⟩

set_option maxRecDepth 100000 in
set_option maxHeartbeats 400000 in
theorem equalsI (p q : Nat) (x y : Int) (w : World) (h1 : w.cell? ⟨p, 0, none⟩ = some (.int .i64 x)) (h2 : w.cell? ⟨q, 0, none⟩ = some (.int .i64 y)) :
    Calls Efzg.prog 33 #[.pointer (some ⟨p, 0, none⟩), .iface 22 (.pointer (some ⟨q, 0, none⟩))] w fun e w' => e = .returned (.bool (x == y)) ∧ ∃ nq, w' = w.drewN nq := by
  have ha := assertI
  go_enter Efzg.func33, Efzg.ntmps33
  go_wp2
  go_quiet (fail)
  go_wp2
  go_ret
  exact ⟨rfl, _, rfl⟩
end Go.Proofs.Yoefzw
