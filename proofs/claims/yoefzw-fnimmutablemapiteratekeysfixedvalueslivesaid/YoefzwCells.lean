/-
  WHAT zzWalk's WALK CARRIES, SAID OF CELLS: the iterator, 'seen', 'strs'; and the contracts of Next, Key, Value, Equals with the world behind them a letter.
-/
import Derived.Test.YoefzwItem
namespace Go.Proofs.Yoefzw
open Go.RowKit Go.Maps Go.WideMaps

/-! ### the same contracts, the world behind them a letter -/

/-- The iterator's cells, at place i. -/
def ItC (w : World) (it bm : Nat) (a : Option Addr) (m c : Nat) (i : Int) : Prop :=
  w.cell? ⟨it, 0, none⟩ = some (.map (some bm)) ∧ w.cell? ⟨it, 1, none⟩ = some (.slice a m c) ∧ w.cell? ⟨it, 2, none⟩ = some (.int .i64 i) ∧ w.cell? ⟨it, 3, none⟩ = some (.int .i64 m) ∧ w.frozen? ⟨it, 2, none⟩ = false

theorem ItC.kept {w w' : World} {it bm m c : Nat} {a : Option Addr} {i : Int} {row : Option Nat} (h : ItC w it bm a m c i) (hg : w.grownBy w' row) (hne : some it ≠ row) : ItC w' it bm a m c i := by
  obtain ⟨h0, h1, h2, h3, h4⟩ := h
  refine ⟨hg.cell h0 hne, hg.cell h1 hne, hg.cell h2 hne, hg.cell h3 hne, ?_⟩
  rw [World.frozen?_of_block (w := w) (hg.block it (World.block_lt_of_cell? w _ h0) hne)]
  exact h4

/-- The cells of 'seen'. -/
def SeenC (w : World) (bn n : Nat) (S : Nat → Bool) : Prop := ∀ t, t < n → w.cell? ⟨bn, t, none⟩ = some (.bool (S t)) ∧ w.frozen? ⟨bn, t, none⟩ = false

theorem SeenC.kept {w w' : World} {bn n : Nat} {S : Nat → Bool} {row : Option Nat} (h : SeenC w bn n S) (hg : w.grownBy w' row) (hne : some bn ≠ row) : SeenC w' bn n S := fun t ht => by
  obtain ⟨h0, h1⟩ := h t ht
  refine ⟨hg.cell h0 hne, ?_⟩
  rw [World.frozen?_of_block (w := w) (hg.block bn (World.block_lt_of_cell? w _ h0) hne)]
  exact h1

theorem grownBy_setCell (w : World) (b o : Nat) (v : Value) : w.grownBy (w.setCell ⟨b, o, none⟩ v) (some b) :=
  ⟨rfl, rfl, rfl, by simp [World.setCell], fun k _ hne => Below.heap_setCell w ⟨b, o, none⟩ v k (fun e => hne (by rw [e]))⟩

theorem SeenC.set {w : World} {bn n : Nat} {S : Nat → Bool} (h : SeenC w bn n S) (p : Nat) (hp : p < n) : SeenC (w.setCell ⟨bn, p, none⟩ (.bool true)) bn n (fun t => S t || t == p) := fun t ht => by
  obtain ⟨h0, h1⟩ := h t ht
  refine ⟨?_, by rw [World.frozen?_setCell]; exact h1⟩
  by_cases e : t = p
  · subst e
    show _ = some (Value.bool (S t || t == t))
    rw [World.cell?_setCell_same _ _ _ h0]
    simp
  · have e1 : (t == p) = false := by simpa using e
    show _ = some (Value.bool (S t || t == p))
    rw [e1, Bool.or_false, ← h0]
    exact World.cell?_setCell_other _ _ _ _ (fun h => e (by cases h; rfl))

theorem nextC (it bm m c i : Nat) (a : Option Addr) (w : World) (hi : i < 100000) (h : ItC w it bm a m c i) :
    Calls Efzg.prog 74 #[.pointer (some ⟨it, 0, none⟩)] w fun e w' => e = .returned (.bool (decide ((i : Int) + 1 ≤ m))) ∧ ItC w' it bm a m c ((i : Int) + 1) ∧ w.grownBy w' (some it) := by
  obtain ⟨h0, h1, h2, h3, h4⟩ := h
  refine (next_any it i m w ⟨by omega, by omega⟩ h2 h3 h4).mono ?_
  rintro e w' ⟨rfl, nq, rfl⟩
  refine ⟨rfl, ?_, (grownBy_setCell w it 2 _).trans (grownBy_drewN _ nq _)⟩
  refine ItC.kept (row := none) ?_ (grownBy_drewN _ nq none) (by simp)
  refine ⟨?_, ?_, World.cell?_setCell_same _ _ _ h2, ?_, by rw [World.frozen?_setCell]; exact h4⟩
  · rw [World.cell?_setCell_other _ _ _ _ (by simp)]; exact h0
  · rw [World.cell?_setCell_other _ _ _ _ (by simp)]; exact h1
  · rw [World.cell?_setCell_other _ _ _ _ (by simp)]; exact h3

/-- What Key hands back. -/
def Keyed1 (w w' : World) (s : ByteArray) (e : Ending) : Prop :=
  ∃ X, e = .returned (.iface 35 (.pointer (some ⟨X, 0, none⟩))) ∧ w'.cell? ⟨X, 0, none⟩ = some (.string s) ∧ w.grownBy w' none

theorem keyC (it bm m c i : Nat) (a : Option Addr) (s : Nat → ByteArray) (w : World) (hm : m ≤ 1024) (hi : i < m) (h : ItC w it bm a m c ((i : Int) + 1)) (hr : RowIs w it a m (fun k => .string (s k))) :
    Calls Efzg.prog 73 #[.pointer (some ⟨it, 0, none⟩)] w fun e w' => Keyed1 w w' (s i) e := by
  obtain ⟨h0, h1, h2, h3, h4⟩ := h
  refine (key_any it a m c i s w hm hi h1 h2 hr).mono ?_
  rintro e w' ⟨rfl, nq, rfl⟩
  refine ⟨_, rfl, ?_, (World.grownBy_alloc w _ none).trans (grownBy_drewN _ nq none)⟩
  show (w.alloc _).cell? _ = _
  simp

/-- What Value hands back. -/
def Valued (w w' : World) (v : Int) (e : Ending) : Prop :=
  ∃ b, e = .returned (.iface 22 (.pointer (some ⟨b, 0, none⟩))) ∧ w'.cell? ⟨b, 0, none⟩ = some (.int .i64 v) ∧ w.grownBy w' none

theorem valueC (it bm m c i N : Nat) (F : List UInt8 → Option Int) (a : Option Addr) (s : Nat → ByteArray) (v : Int) (w : World) (hm : m ≤ 1024) (hi : i < m) (h : ItC w it bm a m c ((i : Int) + 1)) (hr : RowIs w it a m (fun k => .string (s k)))
    (hF : MapOf w bm N F) (hs : (s i).size ≤ maxLen) (hv : F (s i).data.toList = some v) :
    Calls Efzg.prog 77 #[.pointer (some ⟨it, 0, none⟩)] w fun e w' => Valued w w' v e := by
  obtain ⟨h0, h1, h2, h3, h4⟩ := h
  refine (value_any it bm N F a m c i s v w hm hi h0 h1 h2 hr hF hs hv).mono ?_
  rintro e w' ⟨b, nq, rfl, hc, rfl⟩
  exact ⟨b, rfl, hc, grownBy_drewN w nq none⟩

theorem equalsSC (p q : Nat) (s t : ByteArray) (w : World) (h1 : w.cell? ⟨p, 0, none⟩ = some (.string s)) (h2 : w.cell? ⟨q, 0, none⟩ = some (.string t)) :
    Calls Efzg.prog 32 #[.pointer (some ⟨p, 0, none⟩), .iface 35 (.pointer (some ⟨q, 0, none⟩))] w fun e w' => e = .returned (.bool (s.toList == t.toList)) ∧ w.grownBy w' none := by
  refine (equalsS p q s t w h1 h2).mono ?_
  rintro e w' ⟨rfl, nq, rfl⟩
  exact ⟨rfl, grownBy_drewN w nq none⟩

theorem equalsIC (p q : Nat) (x : Int) (w : World) (h1 : w.cell? ⟨p, 0, none⟩ = some (.int .i64 x)) (h2 : w.cell? ⟨q, 0, none⟩ = some (.int .i64 x)) :
    Calls Efzg.prog 33 #[.pointer (some ⟨p, 0, none⟩), .iface 22 (.pointer (some ⟨q, 0, none⟩))] w fun e w' => e = .returned (.bool true) ∧ w.grownBy w' none := by
  refine (equalsI p q x x w h1 h2).mono ?_
  rintro e w' ⟨rfl, nq, rfl⟩
  exact ⟨by simp, grownBy_drewN w nq none⟩

/-- The cells of 'strs', the first k of n filled: each points to a String that holds its key. -/
def StrsC (w : World) (bs n k : Nat) (ks : Nat → ByteArray) : Prop :=
  (∀ t, t < n → (∃ v, w.cell? ⟨bs, t, none⟩ = some v) ∧ w.frozen? ⟨bs, t, none⟩ = false) ∧
  ∀ t, t < k → ∃ q, q ≠ bs ∧ w.cell? ⟨bs, t, none⟩ = some (.pointer (some ⟨q, 0, none⟩)) ∧ w.cell? ⟨q, 0, none⟩ = some (.string (ks t))

theorem StrsC.kept {w w' : World} {bs n k it : Nat} {ks : Nat → ByteArray} (h : StrsC w bs n k ks) (hg : w.grownBy w' (some it)) (hne : bs ≠ it) (hit : ∀ x, w.cell? ⟨it, 0, none⟩ ≠ some (.string x)) : StrsC w' bs n k ks := by
  refine ⟨fun t ht => ?_, fun t ht => ?_⟩
  · obtain ⟨⟨v, h0⟩, h1⟩ := h.1 t ht
    have hne' : some bs ≠ some it := by simpa using hne
    refine ⟨⟨v, hg.cell h0 hne'⟩, ?_⟩
    rw [World.frozen?_of_block (w := w) (hg.block bs (World.block_lt_of_cell? w _ h0) hne')]
    exact h1
  · obtain ⟨q, hq, h0, h1⟩ := h.2 t ht
    exact ⟨q, hq, hg.cell h0 (by simpa using hne), hg.cell h1 (fun e => by cases e; exact hit _ h1)⟩

/-- 'strs[k] = &String{Value: keys[k]}'. -/
theorem StrsC.step {w : World} {bs n k : Nat} {ks : Nat → ByteArray} (h : StrsC w bs n k ks) (hk : k < n) (T : TypeId) (rest : List Value) :
    StrsC ((w.setCell ⟨bs, k, none⟩ (.pointer (some ⟨w.heap.size, 0, none⟩))).alloc (.cells (.string (ks k) :: rest).toArray T)) bs n (k + 1) ks := by
  obtain ⟨⟨v, hv⟩, _⟩ := h.1 k hk
  have hbs : bs < w.heap.size := World.block_lt_of_cell? w _ hv
  have hsz : (w.setCell ⟨bs, k, none⟩ (.pointer (some ⟨w.heap.size, 0, none⟩))).heap.size = w.heap.size := by simp [World.setCell]
  generalize hW : w.setCell ⟨bs, k, none⟩ (.pointer (some ⟨w.heap.size, 0, none⟩)) = W at hsz
  have hfr : ∀ x, W.frozen? x = w.frozen? x := fun x => by rw [← hW]; exact World.frozen?_setCell _ _ _ _
  have hsame : W.cell? ⟨bs, k, none⟩ = some (.pointer (some ⟨w.heap.size, 0, none⟩)) := by rw [← hW]; exact World.cell?_setCell_same _ _ _ hv
  have hoth : ∀ b t, (b = bs → t ≠ k) → W.cell? ⟨b, t, none⟩ = w.cell? ⟨b, t, none⟩ := fun b t hbt => by
    rw [← hW]
    exact World.cell?_setCell_other _ _ _ _ (by simp; intro e1 e2; exact hbt e1.symm e2.symm)
  refine ⟨fun t ht => ?_, fun t ht => ?_⟩
  · obtain ⟨⟨u, hu⟩, hf⟩ := h.1 t ht
    refine ⟨?_, ?_⟩
    · rw [cell_alloc _ _ (by omega)]
      by_cases e : t = k
      · subst e; exact ⟨_, hsame⟩
      · exact ⟨u, by rw [hoth bs t (fun _ => e)]; exact hu⟩
    · rw [World.frozen?_of_block (w := W) (a := ⟨bs, t, none⟩) (Below.heap_alloc W _ bs (by omega)), hfr]
      exact hf
  · by_cases e : t = k
    · subst e
      refine ⟨w.heap.size, by omega, by rw [cell_alloc _ _ (by omega)]; exact hsame, ?_⟩
      rw [← hsz]
      simp
    · obtain ⟨q, hqb, h0, h1⟩ := h.2 t (by omega)
      have hq : q < w.heap.size := World.block_lt_of_cell? w _ h1
      refine ⟨q, hqb, by rw [cell_alloc _ _ (by omega), hoth bs t (fun _ => e)]; exact h0, ?_⟩
      rw [cell_alloc _ _ (by omega), hoth q 0 (fun e3 => absurd e3 hqb)]
      exact h1

end Go.Proofs.Yoefzw
