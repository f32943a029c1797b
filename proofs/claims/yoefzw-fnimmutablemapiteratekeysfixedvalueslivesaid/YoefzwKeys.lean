/-
  THE WALKS OVER THE LAWS' OWN HELPERS THAT READ OR COPY SLICES: the three bounds on total length, zzKeyBytes, zzCloneStrings, zzCloneInts, zzLastIndex, zzDistinct.
  Keys are told by a function 'ks : Nat → ByteArray' and their number n, values by 'vs : Nat → Int'.
-/
import Derived.Test.YoefzwRowIs
namespace Go.Proofs.Yoefzw
open Go.RowKit

def SomeBool (e : Ending) : Prop := ∃ x, e = .returned (.bool x)
theorem someBool (x : Bool) : SomeBool (.returned (.bool x)) := ⟨x, rfl⟩
set_option maxRecDepth 100000 in
set_option maxHeartbeats 400000 in
theorem bytes19 (B : Nat) (a0 a1 : Option Addr) (n c0 m c1 : Nat) (ks : Nat → ByteArray) (w : World) (hn : n ≤ 9223372036854775807) (_hm : m ≤ 9223372036854775807) (hk : RowIs w B a0 n (fun k => .string (ks k))) :
    Calls Efzg.prog 19 #[.slice a0 n c0, .slice a1 m c1] w fun e w' => SomeBool e ∧ w' = w := by
  go_enter Efzg.func19, Efzg.ntmps19
  go_wp2
  · go_ret
    exact ⟨someBool _, rfl⟩
  go_loop [5, 6] (fun z i => ∃ (k : Nat) (t : Int), k ≤ n ∧ i = .int .i64 k ∧ z = .int .i64 t) (fun _ i => n - (intOf i).toNat)
  case atStart => exact ⟨0, _, Nat.zero_le _, rfl, rfl⟩
  case round =>
    obtain ⟨k, t, hkn, rfl, rfl⟩ := hrel
    by_cases hlt : k < n
    · rcases hk with h0 | ⟨b, off, rfl, _, hc⟩
      · omega
      have hck := hc k hlt
      clear hc
      go_wp2
      · go_ret; exact ⟨someBool _, rfl⟩
      · go_ret; exact ⟨someBool _, rfl⟩
      · go_round
        case rel => exact ⟨k + 1, _, by omega, by go_num, rfl⟩
        case measure => simp [intOf]; omega
    · go_wp2
      all_goals (go_ret; exact ⟨someBool _, rfl⟩)
set_option maxRecDepth 100000 in
set_option maxHeartbeats 400000 in
theorem bytes26 (B : Nat) (a0 a1 a2 : Option Addr) (n c0 m c1 l c2 : Nat) (x : ByteArray) (ks : Nat → ByteArray) (w : World) (hn : n ≤ 9223372036854775807) (_hm : m ≤ 9223372036854775807) (_hl : l ≤ 9223372036854775807) (_hx : x.size ≤ 9223372036854775807) (hk : RowIs w B a0 n (fun k => .string (ks k))) :
    Calls Efzg.prog 26 #[.slice a0 n c0, .slice a1 m c1, .slice a2 l c2, .string x] w fun e w' => SomeBool e ∧ w' = w := by
  go_enter Efzg.func26, Efzg.ntmps26
  go_wp2
  · go_ret
    exact ⟨someBool _, rfl⟩
  go_loop [9, 10] (fun z i => ∃ (k : Nat) (t : Int), k ≤ n ∧ i = .int .i64 k ∧ z = .int .i64 t) (fun _ i => n - (intOf i).toNat)
  case atStart => exact ⟨0, _, Nat.zero_le _, rfl, rfl⟩
  case round =>
    obtain ⟨k, t, hkn, rfl, rfl⟩ := hrel
    by_cases hlt : k < n
    · rcases hk with h0 | ⟨b, off, rfl, _, hc⟩
      · omega
      have hck := hc k hlt
      clear hc
      go_wp2
      · go_ret; exact ⟨someBool _, rfl⟩
      · go_ret; exact ⟨someBool _, rfl⟩
      · go_round
        case rel => exact ⟨k + 1, _, by omega, by go_num, rfl⟩
        case measure => simp [intOf]; omega
    · go_wp2
      all_goals (go_ret; exact ⟨someBool _, rfl⟩)
set_option maxRecDepth 100000 in
set_option maxHeartbeats 400000 in
theorem bytes28 (B : Nat) (a0 a1 : Option Addr) (n c0 m c1 : Nat) (ks : Nat → ByteArray) (w : World) (hn : n ≤ 9223372036854775807) (_hm : m ≤ 9223372036854775807) (hk : RowIs w B a0 n (fun k => .string (ks k))) :
    Calls Efzg.prog 28 #[.slice a0 n c0, .slice a1 m c1] w fun e w' => SomeBool e ∧ w' = w := by
  go_enter Efzg.func28, Efzg.ntmps28
  go_wp2
  · go_ret
    exact ⟨someBool _, rfl⟩
  go_loop [5, 6] (fun z i => ∃ (k : Nat) (t : Int), k ≤ n ∧ i = .int .i64 k ∧ z = .int .i64 t) (fun _ i => n - (intOf i).toNat)
  case atStart => exact ⟨0, _, Nat.zero_le _, rfl, rfl⟩
  case round =>
    obtain ⟨k, t, hkn, rfl, rfl⟩ := hrel
    by_cases hlt : k < n
    · rcases hk with h0 | ⟨b, off, rfl, _, hc⟩
      · omega
      have hck := hc k hlt
      clear hc
      go_wp2
      · go_ret; exact ⟨someBool _, rfl⟩
      · go_ret; exact ⟨someBool _, rfl⟩
      · go_round
        case rel => exact ⟨k + 1, _, by omega, by go_num, rfl⟩
        case measure => simp [intOf]; omega
    · go_wp2
      all_goals (go_ret; exact ⟨someBool _, rfl⟩)
theorem info9 : (Efzg.prog.info? 9).map (fun i => (i.zero, i.size, i.bytes)) = some (some (.string ByteArray.empty), 1, 16) := by kernel_rfl
theorem info2 : (Efzg.prog.info? 2).map (fun i => (i.zero, i.size, i.bytes)) = some (some (.int .i64 0), 1, 8) := by kernel_rfl

theorem cell_alloc {w : World} {b : Nat} (o : Obj) (off : Nat) (h : b < w.heap.size) : (w.alloc o).cell? ⟨b, off, none⟩ = w.cell? ⟨b, off, none⟩ :=
  World.cell?_of_block (w := w) (a := ⟨b, off, none⟩) (Below.heap_alloc w o b h)

/-- What a clone hands back: n cells in memory, which read as f; nothing that was there has turned. -/
def Cloned (w w' : World) (n : Nat) (f : Nat → Value) (e : Ending) : Prop :=
  ∃ a c, e = .returned (.slice a n c) ∧ RowIs w' w'.heap.size a n f ∧ Below w.heap.size w w' ∧ (a = none → n = 0)

/-- 'make([]T, n)': a new block of n cells. -/
theorem make_any (t e : TypeId) (z : Value) (bytes : Nat) (ht : Efzg.prog.underlying t = some (.slice e)) (hi : (Efzg.prog.info? e).map (fun i => (i.zero, i.size, i.bytes)) = some (some z, 1, bytes)) (n : Nat) (hb : bytes * n ≤ 281474976710656) (hn : n ≤ 1000000000) :
    ∀ w : World, (Instr.makeSlice t (.int .i64 (n : Int)) (.int .i64 (n : Int))).run Efzg.prog w = .ok (.slice (some ⟨w.heap.size, 0, none⟩) n n) (w.alloc (.cells (madeCells z.cells n) e)) := by
  intro w
  obtain ⟨i, h1, h2, h3, h4⟩ := info_parts hi
  have h := run_make (P := Efzg.prog) w t e i z ht h1 h2 .i64 .i64 n n (by omega) (by omega) (by rw [h4]; have : ((bytes * n : Nat) : Int) ≤ 281474976710656 := by omega
                                                                                                 rwa [Int.natCast_mul] at this) (by omega)
  rw [h3] at h
  simpa using h

set_option maxRecDepth 100000 in
set_option maxHeartbeats 400000 in
theorem cloneS (B : Nat) (a0 : Option Addr) (n c0 : Nat) (ks : Nat → ByteArray) (w : World) (hn : n ≤ 1024) (hB : B ≤ w.heap.size) (h0 : a0 = none → n = 0) (hk : RowIs w B a0 n (fun k => .string (ks k))) :
    Calls Efzg.prog 21 #[.slice a0 n c0] w fun e w' => Cloned w w' n (fun k => .string (ks k)) e := by
  have heq := fun (w : World) (a : Option Addr) (n c n' c' : Nat) => Lib.run_eql_slice_nil (P := Efzg.prog) w 60 9 a n c n' c' Efzg.underlying60
  cases a0 with
  | none =>
    obtain rfl := h0 rfl
    go_enter Efzg.func21, Efzg.ntmps21
    go_wp2
    go_ret
    exact ⟨_, _, rfl, .inl rfl, Below.refl _ _, fun _ => rfl⟩
  | some a =>
    have hmk := make_any 60 9 _ 16 Efzg.underlying60 info9 n (by omega) (by omega) w
    have hsz := size_madeCells (Value.cells (.string ByteArray.empty)) n
    generalize madeCells (Value.cells (.string ByteArray.empty)) n = C at hmk hsz
    have HZ : Hid (C.size = n) := hsz
    clear hsz
    go_enter Efzg.func21, Efzg.ntmps21
    go_wp2
    go_loopw [4] (fun i wr => ∃ (k : Nat) (C' : Array Value), k ≤ n ∧ i = .int .i64 k ∧ wr = w.alloc (.cells C' 9) ∧ C'.size = n ∧ ∀ t, t < k → C'[t]? = some (.string (ks t))) (fun i _ => n - (intOf i).toNat)
    case atStart => exact ⟨0, C, Nat.zero_le _, rfl, rfl, HZ.out, fun t ht => by omega⟩
    case round =>
      obtain ⟨k, C', hkn, rfl, rfl, hsz, hC⟩ := hrel
      by_cases hlt : k < n
      · rcases hk with h0 | ⟨b, off, ea, hbB, hc⟩
        · omega
        have hck : (w.alloc (.cells C' 9)).cell? ⟨b, off + k, none⟩ = some (.string (ks k)) := by
          rw [cell_alloc _ _ (by omega)]; exact hc k hlt
        obtain ⟨v, hv⟩ : ∃ v, C'[k]? = some v := ⟨_, Array.getElem?_eq_getElem (by omega)⟩
        have HC : Hid (∀ t, t < k → C'[t]? = some (.string (ks t))) := hC
        have HZ' : Hid (C'.size = n) := hsz
        clear hC hc hsz
        cases ea
        go_wp2
        go_roundw
        case rel =>
          refine ⟨k + 1, _, by omega, by go_num, rfl, by simpa using HZ'.out, fun t ht => ?_⟩
          by_cases e : t = k
          · subst e; simp [HZ'.out, hlt]
          · rw [Array.getElem?_setIfInBounds_ne (by omega)]; exact HC.out t (by omega)
        case measure => simp [intOf]; omega
      · have HC : Hid (∀ t, t < k → C'[t]? = some (.string (ks t))) := hC
        clear hC
        go_wp2
        go_ret
        refine ⟨_, _, rfl, .inr ⟨_, 0, rfl, by simp, fun t ht => ?_⟩, (Below.refl _ _).alloc (Nat.le_refl _) _, fun h => by cases h⟩
        have := HC.out t (by omega)
        simpa using this
set_option maxRecDepth 100000 in
set_option maxHeartbeats 400000 in
theorem cloneI (B : Nat) (a0 : Option Addr) (n c0 : Nat) (vs : Nat → Int) (w : World) (hn : n ≤ 1024) (hB : B ≤ w.heap.size) (h0 : a0 = none → n = 0) (hk : RowIs w B a0 n (fun k => .int .i64 (vs k))) :
    Calls Efzg.prog 22 #[.slice a0 n c0] w fun e w' => Cloned w w' n (fun k => .int .i64 (vs k)) e := by
  have heq := fun (w : World) (a : Option Addr) (n c n' c' : Nat) => Lib.run_eql_slice_nil (P := Efzg.prog) w 61 2 a n c n' c' Efzg.underlying61
  cases a0 with
  | none =>
    obtain rfl := h0 rfl
    go_enter Efzg.func22, Efzg.ntmps22
    go_wp2
    go_ret
    exact ⟨_, _, rfl, .inl rfl, Below.refl _ _, fun _ => rfl⟩
  | some a =>
    have hmk := make_any 61 2 _ 8 Efzg.underlying61 info2 n (by omega) (by omega) w
    have hsz := size_madeCells (Value.cells (.int .i64 0)) n
    generalize madeCells (Value.cells (.int .i64 0)) n = C at hmk hsz
    have HZ : Hid (C.size = n) := hsz
    clear hsz
    go_enter Efzg.func22, Efzg.ntmps22
    go_wp2
    go_loopw [4] (fun i wr => ∃ (k : Nat) (C' : Array Value), k ≤ n ∧ i = .int .i64 k ∧ wr = w.alloc (.cells C' 2) ∧ C'.size = n ∧ ∀ t, t < k → C'[t]? = some (.int .i64 (vs t))) (fun i _ => n - (intOf i).toNat)
    case atStart => exact ⟨0, C, Nat.zero_le _, rfl, rfl, HZ.out, fun t ht => by omega⟩
    case round =>
      obtain ⟨k, C', hkn, rfl, rfl, hsz, hC⟩ := hrel
      by_cases hlt : k < n
      · rcases hk with h0 | ⟨b, off, ea, hbB, hc⟩
        · omega
        have hck : (w.alloc (.cells C' 2)).cell? ⟨b, off + k, none⟩ = some (.int .i64 (vs k)) := by
          rw [cell_alloc _ _ (by omega)]; exact hc k hlt
        obtain ⟨v, hv⟩ : ∃ v, C'[k]? = some v := ⟨_, Array.getElem?_eq_getElem (by omega)⟩
        have HC : Hid (∀ t, t < k → C'[t]? = some (.int .i64 (vs t))) := hC
        have HZ' : Hid (C'.size = n) := hsz
        clear hC hc hsz
        cases ea
        go_wp2
        go_roundw
        case rel =>
          refine ⟨k + 1, _, by omega, by go_num, rfl, by simpa using HZ'.out, fun t ht => ?_⟩
          by_cases e : t = k
          · subst e; simp [HZ'.out, hlt]
          · rw [Array.getElem?_setIfInBounds_ne (by omega)]; exact HC.out t (by omega)
        case measure => simp [intOf]; omega
      · have HC : Hid (∀ t, t < k → C'[t]? = some (.int .i64 (vs t))) := hC
        clear hC
        go_wp2
        go_ret
        refine ⟨_, _, rfl, .inr ⟨_, 0, rfl, by simp, fun t ht => ?_⟩, (Below.refl _ _).alloc (Nat.le_refl _) _, fun h => by cases h⟩
        have := HC.out t (by omega)
        simpa using this

theorem str_ne {a b : ByteArray} (h : ¬ a = b) : (a.toList == b.toList) = false := by
  rw [beq_eq_false_iff_ne]
  intro e
  rw [ByteArray.toList_eq, ByteArray.toList_eq] at e
  exact h (WideShapes.bytes_inj e)
def SomeInt (e : Ending) : Prop := ∃ x, e = .returned (.int .i64 x)
theorem someInt (x : Int) : SomeInt (.returned (.int .i64 x)) := ⟨x, rfl⟩

set_option maxRecDepth 100000 in
set_option maxHeartbeats 400000 in
theorem keyBytes (B : Nat) (a0 : Option Addr) (n c0 : Nat) (ks : Nat → ByteArray) (w : World) (hn : n ≤ 1024) (hk : RowIs w B a0 n (fun k => .string (ks k))) :
    Calls Efzg.prog 20 #[.slice a0 n c0] w fun e w' => SomeInt e ∧ w' = w := by
  go_enter Efzg.func20, Efzg.ntmps20
  go_wp2
  go_loop [3, 4] (fun z i => ∃ (k : Nat) (t : Int), k ≤ n ∧ i = .int .i64 k ∧ z = .int .i64 t) (fun _ i => n - (intOf i).toNat)
  case atStart => exact ⟨0, _, Nat.zero_le _, rfl, rfl⟩
  case round =>
    obtain ⟨k, t, hkn, rfl, rfl⟩ := hrel
    by_cases hlt : k < n
    · rcases hk with h0 | ⟨b, off, rfl, _, hc⟩
      · omega
      have hck := hc k hlt
      clear hc
      go_wp2
      go_round
      case rel => exact ⟨k + 1, _, by omega, by go_num, rfl⟩
      case measure => simp [intOf]; omega
    · go_wp2
      go_ret
      exact ⟨someInt _, rfl⟩

/-- zzLastIndex over the first n keys. -/
def lastIdx (ks : Nat → ByteArray) (s : ByteArray) : Nat → Int
  | 0 => -1
  | n + 1 => if ks n = s then n else lastIdx ks s n

set_option maxRecDepth 100000 in
set_option maxHeartbeats 400000 in
theorem lastIndex (B : Nat) (a0 : Option Addr) (n c0 : Nat) (ks : Nat → ByteArray) (s : ByteArray) (w : World) (hn : n ≤ 1024) (hk : RowIs w B a0 n (fun k => .string (ks k))) :
    Calls Efzg.prog 27 #[.slice a0 n c0, .string s] w fun e w' => e = .returned (.int .i64 (lastIdx ks s n)) ∧ w' = w := by
  go_enter Efzg.func27, Efzg.ntmps27
  go_wp2
  go_loop [5] (fun j => ∃ (k : Nat), k ≤ n ∧ j = .int .i64 ((k : Int) - 1) ∧ lastIdx ks s n = lastIdx ks s k) (fun j => (intOf j + 1).toNat)
  case atStart => exact ⟨n, Nat.le_refl _, rfl, rfl⟩
  case round =>
    obtain ⟨k, hkn, rfl, hl⟩ := hrel
    have HL : Hid (lastIdx ks s n = lastIdx ks s k) := hl
    clear hl
    cases k with
    | zero =>
      go_wp2
      go_ret
      exact ⟨by rw [HL.out]; rfl, rfl⟩
    | succ k =>
      rcases hk with h0 | ⟨b, off, rfl, _, hc⟩
      · omega
      have hck := hc k (by omega)
      clear hc
      rw [show ((k + 1 : Nat) : Int) - 1 = (k : Int) by omega]
      by_cases he : ks k = s
      · go_wp2
        go_ret
        exact ⟨by rw [HL.out]; simp [lastIdx, he], rfl⟩
      · have hf := str_ne he
        go_wp2
        go_round
        case rel => exact ⟨k, by omega, by go_num, by rw [HL.out]; simp [lastIdx, he]⟩
        case measure => simp [intOf]

theorem lastIdx_bounds (ks : Nat → ByteArray) (s : ByteArray) : ∀ n : Nat, -1 ≤ lastIdx ks s n ∧ lastIdx ks s n < n
  | 0 => by simp [lastIdx]
  | n + 1 => by
    have h := lastIdx_bounds ks s n
    unfold lastIdx
    split <;> omega

/-- How many of the first k keys (of n) stand at their last place. -/
def distinctTo (ks : Nat → ByteArray) (n : Nat) : Nat → Nat
  | 0 => 0
  | k + 1 => if lastIdx ks (ks k) n = k then distinctTo ks n k + 1 else distinctTo ks n k

theorem distinctTo_le (ks : Nat → ByteArray) (n : Nat) : ∀ k, distinctTo ks n k ≤ k
  | 0 => Nat.le_refl _
  | k + 1 => by
    have h := distinctTo_le ks n k
    unfold distinctTo
    split <;> omega

set_option maxRecDepth 100000 in
set_option maxHeartbeats 400000 in
theorem distinct (B : Nat) (a0 : Option Addr) (n c0 : Nat) (ks : Nat → ByteArray) (w : World) (hn : n ≤ 1024) (hk : RowIs w B a0 n (fun k => .string (ks k))) :
    Calls Efzg.prog 31 #[.slice a0 n c0] w fun e w' => e = .returned (.int .i64 (distinctTo ks n n)) ∧ w' = w := by
  have hk0 : Hid (RowIs w B a0 n (fun k => .string (ks k))) := hk
  go_enter Efzg.func31, Efzg.ntmps31
  go_wp2
  go_loop [3, 4] (fun z i => ∃ (k : Nat), k ≤ n ∧ i = .int .i64 k ∧ z = .int .i64 (distinctTo ks n k)) (fun _ i => n - (intOf i).toNat)
  case atStart => exact ⟨0, Nat.zero_le _, rfl, rfl⟩
  case round =>
    obtain ⟨k, hkn, rfl, rfl⟩ := hrel
    have hd := distinctTo_le ks n k
    by_cases hlt : k < n
    · rcases hk with h0 | ⟨b, off, rfl, _, hc⟩
      · omega
      have hck := hc k hlt
      have HI := lastIndex B _ n c0 ks (ks k) w hn hk0
      clear hc
      have hs : Hid (distinctTo ks n (k + 1) = if lastIdx ks (ks k) n = k then distinctTo ks n k + 1 else distinctTo ks n k) := rfl
      have hb := lastIdx_bounds ks (ks k) n
      generalize lastIdx ks (ks k) n = L at hs HI hb
      go_wp2_with (go_at_call 27; refine HI.mono ?_; rintro e w' ⟨rfl, rfl⟩)
      · go_round
        case rel =>
          have hL : L = (k : Int) := by simpa using (by assumption : (L == (k : Int)) = true)
          exact ⟨k + 1, by omega, by go_num, by rw [hs.out, if_pos hL]; go_num⟩
        case measure => simp [intOf]; omega
      · go_round
        case rel =>
          have hL : ¬ L = (k : Int) := by simpa using (by assumption : (L == (k : Int)) = false)
          exact ⟨k + 1, by omega, by go_num, by rw [hs.out, if_neg hL]⟩
        case measure => simp [intOf]; omega
    · go_wp2
      go_ret
      obtain rfl : k = n := by omega
      exact ⟨rfl, rfl⟩

end Go.Proofs.Yoefzw
