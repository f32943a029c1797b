/-
  THE WALK OF zzDecimal: the text of v in base ten.
-/
import Derived.Test.YoefzwDoorRows
import Derived.WalkKit
import Derived.WalkSpells
import Derived.WalkLawsBesides
import Derived.Lib.ItoaNum
namespace Go.Proofs.YoefzwDoor
open Go.RowKit

/-- The decimal digits of u; none for 0. -/
def digs (u : Nat) : List UInt8 := if u = 0 then [] else Lib.decDigits u

theorem digs_step {u : Nat} (h : 0 < u) : digs u = digs (u / 10) ++ [UInt8.ofNat (48 + u % 10)] := by
  unfold digs
  rw [if_neg (by omega)]
  by_cases h10 : u < 10
  · rw [if_pos (by omega), Lib.decDigits, dif_pos h10]
    simp [Nat.mod_eq_of_lt h10]
  · rw [if_neg (by omega), Lib.decDigits, dif_neg h10]

/-- What lies in zzDecimal's buffer: from place i on the digits L. -/
def Buf (C : Array Value) (i : Nat) (L : List UInt8) : Prop := C.size = 20 ∧ L.length + i = 20 ∧ ∀ t, t < L.length → C[i + t]? = some (.int .u8 ((L.getD t 0).toNat : Int))

theorem Buf.step {C : Array Value} {i : Nat} {L : List UInt8} (h : Buf C (i + 1) L) (u : Nat) : Buf (C.setIfInBounds i (.int .u8 (48 + (u : Int) % 10))) i (UInt8.ofNat (48 + u % 10) :: L) := by
  obtain ⟨h1, h2, h3⟩ := h
  refine ⟨by simpa using h1, by simp; omega, fun t ht => ?_⟩
  cases t with
  | zero =>
    have : i < C.size := by omega
    simp [this]
    omega
  | succ t =>
    rw [Array.getElem?_setIfInBounds_ne (by omega), show i + (t + 1) = i + 1 + t by omega, h3 t (by simpa using ht)]
    simp

theorem Buf.cells {C : Array Value} {i : Nat} {L : List UInt8} (h : Buf C i L) (w : World) (T : TypeId) : ∀ j (hj : j < L.length), (w.alloc (.cells C T)).cell? ((⟨w.heap.size, i, none⟩ : Addr).add j) = some (.int .u8 (L[j].toNat : Int)) := by
  intro j hj
  rw [Addr.add_lit]
  have := h.2.2 j hj
  rw [World.cell?_alloc_new, this]
  simp [List.getD, hj]

theorem arrayLen35 : Efzg.prog.arrayLen 35 = 20 := by kernel_rfl
theorem elem35 : Efzg.prog.elem 35 = 5 := by kernel_rfl
theorem under35 : Efzg.prog.underlying 35 = some (.array (Efzg.prog.arrayLen 35) (Efzg.prog.elem 35)) := by kernel_rfl
theorem size5 (w : World) : (sizeOf 5).run Efzg.prog w = .ok 1 w := by kernel_rfl

/-- 'buf[i:]'. -/
theorem slice35 (b i : Nat) (w : World) (hi : i < 20) : (Instr.sliceAt 35 (.pointer (some ⟨b, 0, none⟩)) (some (.int .i64 (i : Int))) none none).run Efzg.prog w = .ok (.slice (some ⟨b, i, none⟩) (20 - i) (20 - i)) w := by
  have h := run_sliceAt_array_l w 35 ⟨b, 0, none⟩ under35 .i64 (i : Int) (by omega) (by rw [arrayLen35]; omega)
  rw [h, elem35, size5, arrayLen35]
  have : ¬ 20 = i := by omega
  simp [Result.andThen, slicedAt, this, Addr.add_lit]

set_option maxRecDepth 100000 in
set_option maxHeartbeats 400000 in
theorem decimal_pos (v : Nat) (w : World) (h1 : 0 < v) (h2 : v ≤ 9223372036854775807) :
    Calls Efzg.prog 6 #[.int .i64 v] w fun e w' => e = .returned (.string ⟨(digs v).toArray⟩) ∧ Below w.heap.size w w' := by
  go_enter Efzg.func6, Efzg.ntmps6
  go_wp2
  go_loopw [4, 6] (fun su si wr => ∃ (u i : Nat) (C : Array Value) (L : List UInt8), u ≤ 9223372036854775808 ∧ i ≤ 20 ∧ su = .int .u64 u ∧ si = .int .i64 i ∧ wr = w.alloc (.cells C 35) ∧ Buf C i L ∧ digs u ++ L = digs v ∧ u < 10 ^ i) (fun su _ _ => (intOf su).toNat)
  case atStart =>
    refine ⟨v, 20, _, [], by omega, by omega, rfl, rfl, rfl, ⟨rfl, rfl, fun t ht => by simp at ht⟩, by simp, ?_⟩
    have : (10 : Nat) ^ 20 = 100000000000000000000 := by decide
    omega
  case round =>
    obtain ⟨u, i, C, L, hu, hi, rfl, rfl, rfl, hbuf, hdg, hpow⟩ := hrel
    by_cases hlt : 0 < u
    · cases i with
      | zero => simp at hpow; omega
      | succ i =>
        obtain ⟨x, hx⟩ : ∃ x, C[i]? = some x := ⟨_, Array.getElem?_eq_getElem (by have := hbuf.1; omega)⟩
        have HB : Hid (Buf C (i + 1) L) := hbuf
        have HD : Hid (digs u ++ L = digs v) := hdg
        have HP : Hid (u < 10 ^ (i + 1)) := hpow
        clear hbuf hdg hpow
        rw [show ((i + 1 : Nat) : Int) = (i : Int) + 1 by omega]
        go_wp2
        go_roundw
        case rel =>
          refine ⟨u / 10, i, _, UInt8.ofNat (48 + u % 10) :: L, by omega, by omega, by go_num, by go_num, rfl, HB.out.step u, ?_, ?_⟩
          · rw [← HD.out, digs_step hlt]; simp
          · have := HP.out
            rw [Nat.pow_succ] at this
            omega
        case measure => simp [intOf]; omega
    · obtain rfl : u = 0 := by omega
      have hL : L = digs v := by simpa [digs] using hdg
      have hi20 : i < 20 := by
        have h3 := hbuf.2.1
        have h4 := digs_step h1
        have h5 : L.length = (digs (v / 10)).length + 1 := by rw [hL, h4]; simp
        omega
      have hsl := slice35 w.heap.size i (w.alloc (.cells C 35)) hi20
      have hcv := run_convert_bytes_back (P := Efzg.prog) (w.alloc (.cells C 35)) 36 9 5 ⟨w.heap.size, i, none⟩ (20 - i) L Efzg.underlying36 Efzg.underlying5 Efzg.underlying9 (hbuf.cells w 35)
      rw [show L.length = 20 - i by have := hbuf.2.1; omega, hL] at hcv
      clear hbuf hdg hpow hlt hL hu
      go_wp2
      go_ret
      exact ⟨rfl, (Below.refl _ _).alloc (Nat.le_refl _) _⟩
theorem minus (l : List UInt8) : Ending.returned (.string ((⟨#[45]⟩ : ByteArray) ++ ⟨l.toArray⟩)) = .returned (.string ⟨(45 :: l).toArray⟩) := by
  have e : ((⟨#[45]⟩ : ByteArray) ++ ⟨l.toArray⟩) = ⟨(45 :: l).toArray⟩ := WideShapes.bytes_inj (by rw [ByteArray.data_append]; simp)
  rw [e]

set_option maxRecDepth 100000 in
set_option maxHeartbeats 400000 in
theorem decimal_neg (v : Nat) (w : World) (h1 : 0 < v) (h2 : v ≤ 9223372036854775808) :
    Calls Efzg.prog 6 #[.int .i64 (-(v : Int))] w fun e w' => e = .returned (.string ⟨(45 :: digs v).toArray⟩) ∧ Below w.heap.size w w' := by
  go_enter Efzg.func6, Efzg.ntmps6
  go_wp2
  go_loopw [4, 6] (fun su si wr => ∃ (u i : Nat) (C : Array Value) (L : List UInt8), u ≤ 9223372036854775808 ∧ i ≤ 20 ∧ su = .int .u64 u ∧ si = .int .i64 i ∧ wr = w.alloc (.cells C 35) ∧ Buf C i L ∧ digs u ++ L = digs v ∧ u < 10 ^ i) (fun su _ _ => (intOf su).toNat)
  case atStart =>
    refine ⟨v, 20, _, [], by omega, by omega, by go_num, rfl, rfl, ⟨rfl, rfl, fun t ht => by simp at ht⟩, by simp, ?_⟩
    have : (10 : Nat) ^ 20 = 100000000000000000000 := by decide
    omega
  case round =>
    obtain ⟨u, i, C, L, hu, hi, rfl, rfl, rfl, hbuf, hdg, hpow⟩ := hrel
    by_cases hlt : 0 < u
    · cases i with
      | zero => simp at hpow; omega
      | succ i =>
        obtain ⟨x, hx⟩ : ∃ x, C[i]? = some x := ⟨_, Array.getElem?_eq_getElem (by have := hbuf.1; omega)⟩
        have HB : Hid (Buf C (i + 1) L) := hbuf
        have HD : Hid (digs u ++ L = digs v) := hdg
        have HP : Hid (u < 10 ^ (i + 1)) := hpow
        clear hbuf hdg hpow
        rw [show ((i + 1 : Nat) : Int) = (i : Int) + 1 by omega]
        go_wp2
        go_roundw
        case rel =>
          refine ⟨u / 10, i, _, UInt8.ofNat (48 + u % 10) :: L, by omega, by omega, by go_num, by go_num, rfl, HB.out.step u, ?_, ?_⟩
          · rw [← HD.out, digs_step hlt]; simp
          · have := HP.out
            rw [Nat.pow_succ] at this
            omega
        case measure => simp [intOf]; omega
    · obtain rfl : u = 0 := by omega
      have hL : L = digs v := by simpa [digs] using hdg
      have hi20 : i < 20 := by
        have h3 := hbuf.2.1
        have h4 := digs_step h1
        have h5 : L.length = (digs (v / 10)).length + 1 := by rw [hL, h4]; simp
        omega
      have hsl := slice35 w.heap.size i (w.alloc (.cells C 35)) hi20
      have hcv := run_convert_bytes_back (P := Efzg.prog) (w.alloc (.cells C 35)) 36 9 5 ⟨w.heap.size, i, none⟩ (20 - i) L Efzg.underlying36 Efzg.underlying5 Efzg.underlying9 (hbuf.cells w 35)
      rw [show L.length = 20 - i by have := hbuf.2.1; omega, hL] at hcv
      have hsm : ¬ 9223372036854775807 < 1 + (digs v).length := by have := hbuf.2.1; rw [← hL]; omega
      clear hbuf hdg hpow hlt hL hu
      go_wp2
      go_ret
      exact ⟨minus (digs v), (Below.refl _ _).alloc (Nat.le_refl _) _⟩
theorem decimal_zero (w : World) : Calls Efzg.prog 6 #[.int .i64 0] w fun e w' => e = .returned (.string ⟨#[48]⟩) ∧ w' = w := by
  go_enter Efzg.func6, Efzg.ntmps6
  go_wp2
  go_ret
  exact ⟨rfl, rfl⟩

/-- zzDecimal: the text of v in base ten. -/
theorem decimal_any (v : Int) (w : World) (h1 : -9223372036854775808 ≤ v) (h2 : v ≤ 9223372036854775807) :
    Calls Efzg.prog 6 #[.int .i64 v] w fun e w' => e = .returned (.string ⟨(Lib.itoa v).toArray⟩) ∧ Below w.heap.size w w' := by
  by_cases hv : v < 0
  · have e1 : v = -((v.natAbs : Nat) : Int) := by omega
    have e2 : Lib.itoa v = 45 :: digs v.natAbs := by
      unfold Lib.itoa digs
      rw [if_pos hv, if_neg (by omega)]
    rw [e2]
    have h := decimal_neg v.natAbs w (by omega) (by omega)
    rw [← e1] at h
    exact h
  · by_cases h0 : v = 0
    · subst h0
      refine (decimal_zero w).mono ?_
      rintro e w' ⟨rfl, rfl⟩
      refine ⟨?_, Below.refl _ _⟩
      have e2 : Lib.itoa 0 = [48] := by unfold Lib.itoa; rw [if_neg (by omega), Lib.decDigits, dif_pos (by decide)]; rfl
      rw [e2]
    · have e1 : v = ((v.toNat : Nat) : Int) := by omega
      have e2 : Lib.itoa v = digs v.toNat := by
        unfold Lib.itoa digs
        rw [if_neg hv, if_neg (by omega)]
      rw [e2]
      have h := decimal_pos v.toNat w (by omega) (by omega)
      rw [← e1] at h
      exact h
end Go.Proofs.YoefzwDoor
