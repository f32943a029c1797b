/-
  THE WALKS OF zzBuildMap AND OF Iterate OVER A MAP THAT IS NOT nil: the iterator's keys are the map's keys, none twice, in whatever order the tape gave.
-/
import Derived.Test.YoefzwMapOf
import Derived.Test.YoefzwIter
import Derived.Deep.RegionHeld3
import Derived.Sort.OwnSorted
namespace Go.Proofs.Yoefzw
open Go.RowKit Go.Maps Go.WideMaps

/-- What the map holds behind k rounds of zzBuildMap. -/
def tab (ks : Nat → ByteArray) (vs : Nat → Int) : Nat → List UInt8 → Option Int
  | 0 => fun _ => none
  | k + 1 => upd (tab ks vs k) (ks k).data.toList (vs k)

theorem make51 (n : Nat) (w : World) : (Instr.makeMap 51 (some (.int .i64 (n : Int)))).run Efzg.prog w = .ok (.map (some w.heap.size)) (w.alloc (.map #[] 0)) := by
  simp [Instr.makeMap, run_underlying Efzg.underlying51, asInt, asIntOf]

/-- What zzBuildMap hands back. -/
def Built (w w' : World) (n : Nat) (F : List UInt8 → Option Int) (e : Ending) : Prop :=
  e = .returned (.map (some w.heap.size)) ∧ MapOf w' w.heap.size n F ∧ Below w.heap.size w w'

set_option maxRecDepth 100000 in
set_option maxHeartbeats 400000 in
theorem buildMap (B : Nat) (a0 a1 : Option Addr) (n c0 c1 : Nat) (ks : Nat → ByteArray) (vs : Nat → Int) (w : World) (hn : n ≤ 1024) (hB : B ≤ w.heap.size)
    (hs : ∀ k, k < n → (ks k).size ≤ maxLen) (hk : RowIs w B a0 n (fun k => .string (ks k))) (hv : RowIs w B a1 n (fun k => .int .i64 (vs k))) :
    Calls Efzg.prog 23 #[.slice a0 n c0, .slice a1 n c1] w fun e w' => Built w w' n (tab ks vs n) e := by
  have hmm := make51 n
  go_enter Efzg.func23, Efzg.ntmps23
  go_wp2
  go_loopw [6] (fun i wr => ∃ (k : Nat), k ≤ n ∧ i = .int .i64 k ∧ MapOf wr w.heap.size k (tab ks vs k) ∧ Below w.heap.size w wr) (fun i _ => n - (intOf i).toNat)
  case atStart => exact ⟨0, Nat.zero_le _, rfl, MapOf.made w, (Below.refl _ _).alloc (Nat.le_refl _) _⟩
  case round =>
    obtain ⟨k, hkn, rfl, hm, hb⟩ := hrel
    by_cases hlt : k < n
    · rcases hk with h0 | ⟨b, off, rfl, hbB, hc⟩
      · omega
      rcases hv with h0 | ⟨b1, off1, rfl, hb1B, hc1⟩
      · omega
      have hck : wr.cell? ⟨b, off + k, none⟩ = some (.string (ks k)) := by rw [hb.cell (p := ⟨b, off + k, none⟩) (by show b < _; omega)]; exact hc k hlt
      have hcv : wr.cell? ⟨b1, off1 + k, none⟩ = some (.int .i64 (vs k)) := by rw [hb.cell (p := ⟨b1, off1 + k, none⟩) (by show b1 < _; omega)]; exact hc1 k hlt
      have hz := hb.size
      obtain ⟨w1, hrun, hm1, hg1⟩ := ((hm.alloc (.cells #[.int .i64 (vs k)] 26)).drew).update (by omega) (hs k hlt) (b := wr.heap.size) (v := vs k) (by simp)
      have hlt1 : b < wr.heap.size := by omega
      have hlt2 : b1 < wr.heap.size := by omega
      have hck1 : w1.cell? ⟨b, off + k, none⟩ = some (.string (ks k)) := hg1.cell (a := ⟨b, off + k, none⟩) (by show (wr.alloc _).cell? _ = _; rw [cell_alloc _ _ hlt1]; exact hck) (by simp; omega)
      have hcv1 : w1.cell? ⟨b1, off1 + k, none⟩ = some (.int .i64 (vs k)) := hg1.cell (a := ⟨b1, off1 + k, none⟩) (by show (wr.alloc _).cell? _ = _; rw [cell_alloc _ _ hlt2]; exact hcv) (by simp; omega)
      have hb1 : Below w.heap.size w w1 := ((hb.alloc hz _).drew).grown hg1 (by show w.heap.size ≤ (wr.alloc _).heap.size; simp; omega) (fun j hj => by cases hj; exact Nat.le_refl _)
      clear hc hc1 hg1
      go_wp2
      go_region_held3 (fun w' => w'.cell? ⟨b, off + k, none⟩ = some (.string (ks k)) ∧ w'.cell? ⟨b1, off1 + k, none⟩ = some (.int .i64 (vs k))) (go_keep) (fail)
      go_wp2
      go_roundw
      case rel => exact ⟨k + 1, by omega, by go_num, hm1, hb1⟩
      case measure => simp [intOf]; omega
    · go_wp2
      go_ret
      obtain rfl : k = n := by omega
      exact ⟨rfl, hm, hb⟩
/-- A key as a cell holds it. -/
def keyV (x : List UInt8) : ByteArray := ⟨x.toArray⟩

/-- The iterator that lies in block it, over the map in block bm, at place i: the keys that it will hand out are ss. -/
def IterAt (w : World) (it bm : Nat) (i : Int) (ss : List (List UInt8)) : Prop :=
  ∃ a c, w.cell? ⟨it, 0, none⟩ = some (.map (some bm)) ∧ w.cell? ⟨it, 1, none⟩ = some (.slice a ss.length c) ∧ w.cell? ⟨it, 2, none⟩ = some (.int .i64 i) ∧ w.cell? ⟨it, 3, none⟩ = some (.int .i64 ss.length) ∧
    w.frozen? ⟨it, 2, none⟩ = false ∧ RowIs w it a ss.length (fun k => .string (keyV (ss.getD k [])))

/-- What Iterate hands back. -/
def Iterated (w w' : World) (bm n : Nat) (F : List UInt8 → Option Int) (e : Ending) : Prop :=
  ∃ it ss, e = .returned (.iface 79 (.pointer (some ⟨it, 0, none⟩))) ∧ w.heap.size ≤ it ∧ IterAt w' it bm 0 ss ∧ ss.Nodup ∧ (∀ x, x ∈ ss ↔ (F x).isSome = true) ∧ ss.length ≤ n ∧ w.grownBy w' none

set_option maxRecDepth 100000 in
set_option maxHeartbeats 400000 in
theorem iterate_any (b bm n : Nat) (F : List UInt8 → Option Int) (w : World) (hn : n ≤ 1024) (hc : w.cell? ⟨b, 0, none⟩ = some (.map (some bm))) (hm : MapOf w bm n F) :
    Calls Efzg.prog 24 #[.pointer (some ⟨b, 0, none⟩)] w fun e w' => Iterated w w' bm n F e := by
  obtain ⟨i0, hi, hz0, hz1, hz2⟩ := info_parts info9
  have hF : ∀ D : DataW Unit, (∀ s, F s = none → Maps.has D (.string s) = false) → (∀ s v, F s = some v → Maps.has D (.string s) = true) → ∀ x, Maps.has D (.string x) = (F x).isSome := by
    intro D h1 h2 x
    cases hx : F x with
    | none => simp [h1 x hx]
    | some v => simp [h2 x v hx]
  obtain ⟨D, hown, hD1, hD2⟩ := hm
  have HD : Hid (∀ x, Maps.has D (.string x) = (F x).isSome) := hF D hD1 (fun s v hs => by obtain ⟨_, _, h, _⟩ := hD2 s v hs; exact h)
  clear hF hD1 hD2
  have hbl := hown.lt
  have hsz : Maps.size D ≤ n := by
    obtain ⟨es, clock, _, _, hs, rfl⟩ := hown
    simp [Maps.size, length_sorted]
    exact hs
  go_enter Efzg.func24, Efzg.ntmps24
  go_wp2_with (first
    | (at_range; refine wpList_range_own _ rfl _ 51 rfl 9 74 law9 Efzg.underlying51 _ bm n _ rfl hown ?_; intro w0 hrg0 hg0 hs0)
    | go_in)
  go_frame
  go_loopw [3] (fun v wr => ∃ (left : Lit → Bool) (cnt : Nat) (ss : List (List UInt8)), wr.ranges Efzg.prog 9 refElem bm w.heap.size n D left cnt ∧ ss.length + cnt ≤ Maps.size D ∧
      wr.ownsRow w.heap.size 9 1 v ss.length (ss.map encStr) ∧ Collected D left ss ∧ w.grownBy wr none)
    (fun _ wr => wr.rangeLeft bm w.heap.size)
  case atStart =>
    exact ⟨_, _, [], hrg0, by simp, World.ownsRow_nil _ _ _ _, Collected.start D, hg0⟩
  case round =>
    obtain ⟨left, cnt, ss, hrg, hcs, hrow, hC, hnx⟩ := hrel
    have hcw : wr.cell? ⟨b, 0, none⟩ = some (.map (some bm)) := hnx.cell hc (by simp)
    go_wp2_with (first
      | (at_next; refine wpList_next_ranges _ rfl _ rfl 9 law9 refElem encStr ref (fun key kl hk => by obtain ⟨x, hx, _⟩ := Maps.keyOf_str Efzg.underlying9 hk; exact ⟨x, hx⟩) (fun v y hv => by obtain ⟨c, rfl, _⟩ := refElem_inv hv; exact ⟨c, rfl⟩) bm w.heap.size n _ _ _ rfl hrg ?_ ?_)
      | go_in)
    · -- NOTHING IS LEFT
      intro hc0 hl0
      have HM : Hid (∀ x, x ∈ ss ↔ (F x).isSome = true) := fun x => by rw [hC.2 x, hl0, HD.out x]; simp
      have hlen : ss.length ≤ n := by omega
      rcases hrow.2 with ⟨hnil, hl⟩ | ⟨g, cap, cur, rfl, hbase, hbk, h1, h2, h3, h4⟩
      · subst hnil
        have hss : ss = [] := List.eq_nil_of_length_eq_zero hl
        subst hss
        clear hl hl0
        go_wp2
        go_ret
        refine ⟨_, [], rfl, hnx.size, ⟨none, 0, by simp, by simp, by simp, by simp, by simp, .inl rfl⟩, hC.1, HM.out, by simp, hnx.trans (World.grownBy_alloc _ _ _)⟩
      · have hgl : g < wr.heap.size := (Array.getElem?_eq_some_iff.1 hbk).1
        have HR : Hid (RowIs wr wr.heap.size (some ⟨g, 0, none⟩) ss.length (fun k => .string (keyV (ss.getD k [])))) := by
          refine .inr ⟨g, 0, rfl, hgl, fun k hk => ?_⟩
          have e1 : (cur.toList.take (ss.length * 1))[k]? = some (encStr (ss.getD k [])) := by
            rw [h4, List.getElem?_map, List.getD_eq_getElem?_getD, List.getElem?_eq_getElem hk]; rfl
          rw [List.getElem?_take_of_lt (by omega)] at e1
          rw [Array.getElem?_toList] at e1
          simp only [World.cell?, hbk, Nat.zero_add]
          exact e1
        clear h4 h3 hbk hl0
        go_wp2
        go_ret
        refine ⟨_, ss, rfl, hnx.size, ⟨some ⟨g, 0, none⟩, cap, by simp, by simp, by simp, by simp, by simp, ?_⟩, hC.1, HM.out, hlen, hnx.trans (World.grownBy_alloc _ _ _)⟩
        exact HR.out.below ((Below.refl _ _).alloc (Nat.le_refl _) _)
    · intro x c kl yd yp w2 cnt2 hkey hlk hv hat hrg2 hlt hg2 hs2 hen
      obtain ⟨x', ex, rfl, _⟩ := Maps.keyOf_str Efzg.underlying9 hkey
      obtain rfl : x = x' := encStr_inj ex
      have hrow2 := hrow.kept hg2 (Or.inr (row_ne_iter hrow hrg).symm)
      clear hs2
      go_wp2_with (first
        | (at_builtin; refine wpList_append_own _ rfl _ _ 60 rfl w.heap.size 9 i0 (.string ⟨#[]⟩) 1 16 Efzg.underlying60 hi hz0 hz1 hz2 rfl (by decide) _ _ _ rfl (hrow2.alloc _) ⟨w2.heap.size, 0, none⟩ 1 1 [encStr x] rfl rfl (cell_one_new _ _ _) (by simp [Value.oneCell', encStr]) (by unfold maxLen at *; omega) (by omega) (by have := hnx.size; have := hg2.size; simp; omega) ?_; intro v' w3 hown' hg3 hnil3; go_frame)
        | go_in)
      have hrg3 := (hrg2.alloc _).kept hg3 (row_ne_low hrow2 hbl) (row_ne_iter hrow2 hrg2)
      go_roundw
      case rel =>
        refine ⟨_, cnt2, ss ++ [x], hrg3, by simp; omega, by simpa using hown', hC.step hlk hat, ?_⟩
        have e1 := hnx.andThen hg2 (fun j hj => by cases hj; exact .inl (Nat.le_refl _))
        have e2 := e1.trans (World.grownBy_alloc w2 (.cells #[encStr x] 9) none)
        exact e2.andThen hg3 (fun j hj => .inl (hrow2.lt j hj).1)
      case measure => rw [hrg3.left_eq, hrg.left_eq]; exact hlt
end Go.Proofs.Yoefzw
