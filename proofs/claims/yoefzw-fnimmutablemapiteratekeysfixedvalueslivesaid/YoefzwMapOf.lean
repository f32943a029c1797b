/-
  A MAP OF THE CALL's OWN, ITS KEYS STRINGS, ITS ELEMENTS POINTERS TO Int OBJECTS BEHIND THE INTERFACE Object: 'MapOf w bm n F': block bm is a map of at most n entries; F says what Value its element at a key holds.
-/
import Derived.Test.YoefzwKeys
import Derived.Maps.Own
import Derived.Maps.OwnOps
import Derived.Maps.OwnSet
import Derived.Maps.RangeWalk
import Derived.Sort.KeysCollected
namespace Go.Proofs.Yoefzw
open Go.RowKit Go.Maps Go.WideMaps

theorem law9 : Keyed Efzg.prog 9 := string_keyed Efzg.underlying9

/-- The element that points to block b. -/
def ref (b : Nat) : Value := .iface 22 (.pointer (some ⟨b, 0, none⟩))

/-- How such an element reads: its block's number. -/
def refElem (v : Value) : Option (DataW Unit × List MemPlace) :=
  match v with
  | .iface t (.pointer (some ⟨b, o, f⟩)) => if t = 22 ∧ o = 0 ∧ f = none then some (.lit (.int .i64 b), []) else none
  | _ => none

theorem refElem_mk (b : Nat) : refElem (.iface 22 (.pointer (some ⟨b, 0, none⟩))) = some (.lit (.int .i64 b), []) := by simp [refElem]

theorem refElem_inv {v : Value} {z : DataW Unit × List MemPlace} (h : refElem v = some z) : ∃ b, v = .iface 22 (.pointer (some ⟨b, 0, none⟩)) ∧ z = (.lit (.int .i64 b), []) := by
  unfold refElem at h
  split at h
  · split at h
    · rename_i hc
      obtain ⟨rfl, rfl, rfl⟩ := hc
      cases h
      exact ⟨_, rfl, rfl⟩
    · cases h
  · cases h

/-- Block bm is a map of at most n entries: at key s (its bytes) it holds a pointer to an Int of Value v just if F s = some v. -/
def MapOf (w : World) (bm n : Nat) (F : List UInt8 → Option Int) : Prop :=
  ∃ D : DataW Unit, w.ownsMap Efzg.prog 9 refElem bm n D ∧ (∀ s, F s = none → Maps.has D (.string s) = false) ∧
    ∀ s v, F s = some v → ∃ b : Nat, (∀ zd, D.atKey (.string s) zd = .lit (.int .i64 b)) ∧ Maps.has D (.string s) = true ∧ w.cell? ⟨b, 0, none⟩ = some (.int .i64 v)

theorem MapOf.lt {w : World} {bm n : Nat} {F : List UInt8 → Option Int} (h : MapOf w bm n F) : bm < w.heap.size := by
  obtain ⟨D, h1, _⟩ := h
  exact h1.lt

/-- A map's block holds no cell. -/
theorem MapOf.noCell {w : World} {bm n : Nat} {F : List UInt8 → Option Int} (h : MapOf w bm n F) (o : Nat) : w.cell? ⟨bm, o, none⟩ = none := by
  obtain ⟨D, ⟨es, clock, hb, _⟩, _⟩ := h
  simp [World.cell?, hb]

theorem MapOf.made (w : World) : MapOf (w.alloc (.map #[] 0)) w.heap.size 0 (fun _ => none) :=
  ⟨.map [], World.ownsMap_made _ _ _ _, fun _ _ => rfl, fun _ _ h => by cases h⟩

theorem MapOf.mono {w : World} {bm n n' : Nat} {F : List UInt8 → Option Int} (h : MapOf w bm n F) (hn : n ≤ n') : MapOf w bm n' F := by
  obtain ⟨D, h1, h2⟩ := h
  exact ⟨D, h1.mono hn, h2⟩

/-- The map and its elements stay what they are while block c, which is none of theirs, is written and new blocks are made. -/
theorem MapOf.kept {w w' : World} {bm n c : Nat} {F : List UInt8 → Option Int} (h : MapOf w bm n F) (hg : w.grownBy w' (some c)) (hc : c ≠ bm) (hi : ∀ v, w.cell? ⟨c, 0, none⟩ ≠ some (.int .i64 v)) : MapOf w' bm n F := by
  obtain ⟨D, h1, h2, h3⟩ := h
  refine ⟨D, h1.kept hg (fun e => hc (by cases e; rfl)), h2, fun s v hs => ?_⟩
  obtain ⟨b, hb1, hb2, hb3⟩ := h3 s v hs
  exact ⟨b, hb1, hb2, hg.cell hb3 (fun e => by cases e; exact hi v hb3)⟩

theorem MapOf.grown {w w' : World} {bm n : Nat} {F : List UInt8 → Option Int} (h : MapOf w bm n F) (hg : w.grownBy w' none) : MapOf w' bm n F := by
  obtain ⟨D, h1, h2, h3⟩ := h
  refine ⟨D, h1.kept hg (fun e => by cases e), h2, fun s v hs => ?_⟩
  obtain ⟨b, hb1, hb2, hb3⟩ := h3 s v hs
  exact ⟨b, hb1, hb2, hg.cell hb3 (fun e => by cases e)⟩

theorem MapOf.alloc {w : World} {bm n : Nat} {F : List UInt8 → Option Int} (h : MapOf w bm n F) (o : Obj) : MapOf (w.alloc o) bm n F := h.grown (World.grownBy_alloc w o none)
theorem grownBy_drew (w : World) (row : Option Nat) : w.grownBy w.drew row := ⟨rfl, rfl, rfl, Nat.le_refl _, fun _ _ _ => rfl⟩
theorem grownBy_drewN (w : World) (n : Nat) (row : Option Nat) : w.grownBy (w.drewN n) row := ⟨rfl, rfl, rfl, Nat.le_refl _, fun _ _ _ => rfl⟩
theorem MapOf.drew {w : World} {bm n : Nat} {F : List UInt8 → Option Int} (h : MapOf w bm n F) : MapOf w.drew bm n F := h.grown (grownBy_drew w none)

/-- F with v at key s. -/
def upd (F : List UInt8 → Option Int) (s : List UInt8) (v : Int) : List UInt8 → Option Int := fun x => if x = s then some v else F x

/-- 'm[s] = &Int{v}', the Int lying in block b. -/
theorem MapOf.update {w : World} {bm n : Nat} {F : List UInt8 → Option Int} (h : MapOf w bm n F) (hn : n < 1000000) {s : ByteArray} (hs : s.size ≤ maxLen) {b : Nat} {v : Int} (hb : w.cell? ⟨b, 0, none⟩ = some (.int .i64 v)) :
    ∃ w', (Instr.mapUpdate 51 (.map (some bm)) (.string s) (.iface 22 (.pointer (some ⟨b, 0, none⟩)))).run Efzg.prog w = .ok () w' ∧ MapOf w' bm (n + 1) (upd F s.data.toList v) ∧ w.grownBy w' (some bm) := by
  have hno := h.noCell
  obtain ⟨D, h1, h2, h3⟩ := h
  obtain ⟨w', hrun, hown, hg⟩ := h1.update law9 Efzg.underlying51 (by unfold maxLen; omega) (keyOf_string_mk Efzg.underlying9 hs) (refElem_mk b)
  have hkeep : ∀ (b' : Nat) (v' : Int), w.cell? ⟨b', 0, none⟩ = some (.int .i64 v') → w'.cell? ⟨b', 0, none⟩ = some (.int .i64 v') := fun b' v' hc =>
    hg.cell hc (fun e => by cases e; rw [hno 0] at hc; cases hc)
  have hmap : IsMap D := (h1.tidy law9).isMap
  refine ⟨w', hrun, ⟨_, hown, fun x hx => ?_, fun x y hx => ?_⟩, hg⟩
  · unfold upd at hx
    split at hx
    · cases hx
    · rename_i hne
      rw [has_put_other (by simpa using hne)]
      exact h2 x hx
  · unfold upd at hx
    split at hx
    · rename_i he
      cases hx
      subst he
      have hk : WideAt.IsKeyLit (Lit.string s.data.toList) := trivial
      exact ⟨b, fun zd => atKey_put_same hmap hk _ zd, has_put_same hmap hk _, hkeep b _ hb⟩
    · rename_i hne
      obtain ⟨b', hb1, hb2, hb3⟩ := h3 x y hx
      have hne' : Lit.string x ≠ Lit.string s.data.toList := by simpa using hne
      exact ⟨b', fun zd => by rw [atKey_put_other hne']; exact hb1 zd, by rw [has_put_other hne']; exact hb2, hkeep b' y hb3⟩

theorem zero74 (w : World) : (zeroValue 74).run Efzg.prog w = .ok .nilIface w := by kernel_rfl

/-- 'm[s]', the key there. -/
theorem MapOf.lookup {w : World} {bm n : Nat} {F : List UInt8 → Option Int} (h : MapOf w bm n F) {s : ByteArray} (hs : s.size ≤ maxLen) {v : Int} (hv : F s.data.toList = some v) :
    ∃ b : Nat, (Instr.lookup 51 (.map (some bm)) (.string s) false).run Efzg.prog w = .ok (.iface 22 (.pointer (some ⟨b, 0, none⟩))) w ∧ w.cell? ⟨b, 0, none⟩ = some (.int .i64 v) := by
  obtain ⟨D, ⟨es, clock, hb, Ft, _, rfl⟩, h2, h3⟩ := h
  obtain ⟨b, hb1, hb2, hb3⟩ := h3 _ v hv
  rcases Maps.fit_look false law9 Efzg.underlying51 (zero74 w) hb Ft (keyOf_string_mk Efzg.underlying9 hs) with ⟨hrun, _, hat⟩ | ⟨e0, y, _, _, hrun, hRv, hat, _⟩
  · have e1 := hb1 (.lit (.bool true))
    rw [hat] at e1
    cases e1
  · obtain ⟨b', e1, e2⟩ := refElem_inv hRv
    have e3 := hb1 .nil
    rw [hat, e2] at e3
    have e4 : b' = b := by
      have e5 : (b' : Int) = (b : Int) := by simpa using e3
      omega
    subst e4
    rw [e1] at hrun
    exact ⟨b', hrun, hb3⟩

end Go.Proofs.Yoefzw
