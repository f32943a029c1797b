/-
  THE WALK OF zzWalk: the iterator yields just the distinct keys, each once, each with the Int at its last place, and is then exhausted.
-/
import Derived.Test.YoefzwCells
namespace Go.Proofs.Yoefzw
open Go.RowKit Go.Maps Go.WideMaps

theorem info35 : (Efzg.prog.info? 35).map (fun i => (i.zero, i.size, i.bytes)) = some (some (.pointer none), 1, 8) := by kernel_rfl
theorem info4 : (Efzg.prog.info? 4).map (fun i => (i.zero, i.size, i.bytes)) = some (some (.bool false), 1, 1) := by kernel_rfl

/-- Which places have been seen behind i steps: p k is the place of the k-th key. -/
def seenB (p : Nat → Nat) : Nat → Nat → Bool
  | 0, _ => false
  | i + 1, t => seenB p i t || t == p i

theorem seenB_false {p : Nat → Nat} {m : Nat} (hinj : ∀ i j, i < m → j < m → p i = p j → i = j) : ∀ (i k : Nat), i ≤ k → k < m → seenB p i (p k) = false
  | 0, _, _, _ => rfl
  | i + 1, k, hi, hk => by
    have h := seenB_false hinj i k (by omega) hk
    have hne : p k ≠ p i := fun e => by have := hinj k i hk (by omega) e; omega
    simp [seenB, h, hne]

/-- What Value hands back, in the words of zzWalk's walk. -/
def Valued2 (w4 w w' : World) (v : Int) (ad : Addr) (u : Value) (e : Ending) : Prop :=
  ∃ b, e = .returned (.iface 22 (.pointer (some ⟨b, 0, none⟩))) ∧ w'.cell? ⟨b, 0, none⟩ = some (.int .i64 v) ∧ w'.cell? ad = some u ∧ w4.grownBy w' none ∧ ∀ x, w.cell? ⟨w4.heap.size, 0, none⟩ = some x → w'.cell? ⟨w4.heap.size, 0, none⟩ = some x

set_option maxRecDepth 100000 in
set_option maxHeartbeats 1000000 in
theorem walk25 (it bm N : Nat) (F : List UInt8 → Option Int) (ak aw a : Option Addr) (n ck cw m c : Nat) (ks s : Nat → ByteArray) (vs : Nat → Int) (p : Nat → Nat) (w : World)
    (hn : n ≤ 1024) (hm : m ≤ 1024) (hk : RowIs w it ak n (fun k => .string (ks k))) (hv : RowIs w it aw n (fun k => .int .i64 (vs k))) (hI : ItC w it bm a m c 0) (hr : RowIs w it a m (fun k => .string (s k))) (hF : MapOf w bm N F)
    (hd : distinctTo ks n n = m) (hl : ∀ i, i < m → lastIdx ks (s i) n = p i) (hinj : ∀ i j, i < m → j < m → p i = p j → i = j) (hFv : ∀ i, i < m → F (s i).data.toList = some (vs (p i))) (hsz : ∀ i, i < m → (s i).size ≤ maxLen) :
    Calls Efzg.prog 25 #[.iface 79 (.pointer (some ⟨it, 0, none⟩)), .slice ak n ck, .slice aw n cw] w fun e w' => e = .returned (.bool true) ∧ Below it w w' := by
  have H31 := distinct it ak n ck ks w hn hk
  rw [hd] at H31
  have hmk := make_any 82 35 _ 8 Efzg.underlying82 info35 n (by omega) (by omega) w
  have hms := size_madeCells (Value.cells (.pointer none)) n
  generalize madeCells (Value.cells (.pointer none)) n = C at hmk hms
  have hitw : it < w.heap.size := World.block_lt_of_cell? w _ hI.1
  have HZ : Hid (C.size = n) := hms
  have HI : Hid (ItC w it bm a m c 0) := hI
  have HD : Hid (distinctTo ks n n = m) := hd
  have HL : Hid (∀ i, i < m → lastIdx ks (s i) n = p i) := hl
  have HFv : Hid (∀ i, i < m → F (s i).data.toList = some (vs (p i))) := hFv
  have HJ : Hid (∀ i j, i < m → j < m → p i = p j → i = j) := hinj
  clear hms hI hd hl hFv hinj
  go_enter Efzg.func25, Efzg.ntmps25
  go_wp2_with (go_at_call 31; refine H31.mono ?_; rintro e w' ⟨rfl, hw⟩; rw [hw]; clear hw w')
  go_loopw [9] (fun i wr => ∃ k : Nat, k ≤ n ∧ i = .int .i64 k ∧ StrsC wr w.heap.size n k ks ∧ w.grownBy wr none ∧ w.heap.size < wr.heap.size) (fun i _ => n - (intOf i).toNat)
  case atStart =>
    refine ⟨0, Nat.zero_le _, rfl, ⟨fun t ht => ⟨?_, by simp⟩, fun t ht => by omega⟩, World.grownBy_alloc _ _ _, by simp⟩
    rw [World.cell?_alloc_new]
    exact ⟨_, Array.getElem?_eq_getElem (by have := HZ.out; omega)⟩
  case round =>
    obtain ⟨k, hkn, rfl, hS, hg, hwz⟩ := hrel
    by_cases hlt : k < n
    · have hk' := hk.below (below_of_grown hg (Nat.le_of_lt hitw) (fun j hj => by cases hj))
      rcases hk' with h0 | ⟨b, off, rfl, hbB, hc⟩
      · omega
      have hck := hc k hlt
      obtain ⟨⟨v, hcv⟩, hfv⟩ := hS.1 k hlt
      have HS : Hid (StrsC wr w.heap.size n k ks) := hS
      clear hc hS
      go_wp2
      go_roundw
      case rel =>
        refine ⟨k + 1, by omega, by go_num, HS.out.step hlt 39 [.slice none 0 0], ?_, by simp [World.setCell]; omega⟩
        exact (hg.andThen (grownBy_setCell wr w.heap.size k _) (fun j hj => by cases hj; exact .inl (Nat.le_refl _))).trans (World.grownBy_alloc _ _ _)
      case measure => simp [intOf]; omega
    · have ekn : n = k := by omega
      subst ekn
      rename World => w0
      have hmk2 := make_any 83 4 _ 1 Efzg.underlying83 info4 n (by omega) (by omega) w0
      have hbool : ∀ t, t < n → (madeCells (Value.cells (.bool false)) n)[t]? = some (.bool false) := by
        intro t ht
        simp [madeCells, ht, Value.cells, Nat.mod_one]
      generalize madeCells (Value.cells (.bool false)) n = C2 at hmk2 hbool
      have HB : Hid (∀ t, t < n → C2[t]? = some (.bool false)) := hbool
      have HF : Hid (MapOf w0 bm N F) := hF.grown hg
      have HI0 : Hid (ItC w0 it bm a m c 0) := HI.out.kept hg (by simp)
      have hb0 := below_of_grown hg (Nat.le_of_lt hitw) (fun j hj => by cases hj)
      have HV : Hid (RowIs w0 it aw n (fun k => .int .i64 (vs k))) := hv.below hb0
      have HR : Hid (RowIs w0 it a m (fun k => .string (s k))) := hr.below hb0
      have HS : Hid (StrsC w0 w.heap.size n n ks) := hS
      have hne1 : w.heap.size ≠ it := by omega
      have hne2 : w0.heap.size ≠ it := by omega
      have hitw0 : it ≤ w0.heap.size := by omega
      clear hbool hF hk hv hr hS H31 HI hmk
      have hmn := method_next
      have hmy := method_key
      have hmv := method_value
      go_wp2
      go_loopw [11] (fun i wr => ∃ j : Nat, j ≤ m ∧ i = .int .i64 j ∧ w0.grownBy wr (some it) ∧ ItC wr it bm a m c j ∧ SeenC wr w0.heap.size n (seenB p j) ∧ w0.heap.size < wr.heap.size) (fun i _ => m + 1 - (intOf i).toNat)
      case atStart =>
        refine ⟨0, Nat.zero_le _, rfl, World.grownBy_alloc _ _ _, HI0.out.kept (World.grownBy_alloc _ _ none) (by simp), fun t ht => ⟨?_, by simp⟩, by simp⟩
        rw [World.cell?_alloc_new]
        exact HB.out t ht
      case round =>
        obtain ⟨j, hjm, rfl, hgW, hIW, hSW, hzW⟩ := hrel
        rename World => wj
        have HN := nextC it bm m c j a wj (by omega) hIW
        by_cases hlt : j < m
        · have hdec : decide ((j : Int) + 1 ≤ m) = true := by simp; omega
          rw [hdec] at HN
          clear hdec
          have hbel : Below it w0 wj := below_of_grown hgW hitw0 (fun k hk => by cases hk; exact Nat.le_refl _)
          go_wp2_with (go_at_call 74; refine HN.mono ?_; rintro e w1 ⟨rfl, hI1, hg1⟩)
          have hbel1 : Below it w0 w1 := below_of_grown (hgW.trans hg1) hitw0 (fun k hk => by cases hk; exact Nat.le_refl _)
          refine (keyC it bm m c j a s w1 hm hlt hI1 (HR.out.below hbel1)).mono ?_
          rintro e w2 ⟨X, rfl, hX, hg2⟩
          have hG2 : w0.grownBy w2 (some it) := (hgW.trans hg1).trans (hg2.but _)
          have HS2 : Hid (StrsC w2 w.heap.size n n ks) := HS.out.kept hG2 hne1 (fun x hx => by rw [HI0.out.1] at hx; cases hx)
          go_wp2_with fail
          go_loopw [13, 14] (fun s13 s14 wr => ∃ t : Nat, t ≤ n ∧ s13 = .int .i64 (-1) ∧ s14 = .int .i64 ((t : Int) - 1) ∧ lastIdx ks (s j) n = lastIdx ks (s j) t ∧ w2.grownBy wr none) (fun _ s14 _ => (intOf s14 + 1).toNat)
          case atStart => exact ⟨n, Nat.le_refl _, rfl, rfl, rfl, World.grownBy.refl _ _⟩
          case round =>
            obtain ⟨t, htn, rfl, rfl, hlast, hgt⟩ := hrel
            rename World => wt
            have hpj := HL.out j hlt
            rw [hlast] at hpj
            have HP : Hid (lastIdx ks (s j) t = p j) := hpj
            have HLT : Hid (lastIdx ks (s j) n = lastIdx ks (s j) t) := hlast
            clear hpj hlast
            cases t with
            | zero => exact absurd HP.out (by simp [lastIdx])
            | succ t =>
              obtain ⟨q, _, hq0, hq1⟩ := HS2.out.2 t (by omega)
              have hqt := hgt.cell hq0 (by simp)
              have hqs := hgt.cell hq1 (by simp)
              have hXt := hgt.cell hX (by simp)
              have HE := equalsSC q X (ks t) (s j) wt hqs hXt
              rw [show ((t + 1 : Nat) : Int) - 1 = (t : Int) by omega]
              by_cases he : ks t = s j
              · have htr : ((ks t).toList == (s j).toList) = true := by rw [he]; simp
                rw [htr] at HE
                have hpt : p j = t := by
                  have h := HP.out
                  simp [lastIdx, he] at h
                  omega
                have HPT : Hid (p j = t) := hpt
                have hsn : seenB p j t = false := by rw [← hpt]; exact seenB_false HJ.out j j (Nat.le_refl _) hlt
                clear hpt htr
                go_wp2_with fail
                refine HE.mono ?_
                rintro e w3 ⟨rfl, hg3⟩
                have hG3 : w0.grownBy w3 (some it) := (hG2.trans (hgt.but _)).trans (hg3.but _)
                have HS3 : Hid (SeenC w3 w0.heap.size n (seenB p j)) := (((hSW.kept hg1 (by simpa using hne2)).kept hg2 (by simp)).kept hgt (by simp)).kept hg3 (by simp)
                have HI3 : Hid (ItC w3 it bm a m c ((j : Int) + 1)) := ((hI1.kept hg2 (by simp)).kept hgt (by simp)).kept hg3 (by simp)
                have hcs := (HS3.out t (by omega)).1
                have hfs := (HS3.out t (by omega)).2
                rw [hsn] at hcs
                have htlo : (0 : Int) ≤ (t : Int) := by omega
                have hthi : (t : Int) < (n : Int) := by omega
                have hg4 : w3.grownBy (w3.setCell ⟨w0.heap.size, t, none⟩ (.bool true)) (some w0.heap.size) := grownBy_setCell _ _ _ _
                have HI4 : Hid (ItC (w3.setCell ⟨w0.heap.size, t, none⟩ (.bool true)) it bm a m c ((j : Int) + 1)) := HI3.out.kept hg4 (by simpa using hne2.symm)
                have HS4 : Hid (SeenC (w3.setCell ⟨w0.heap.size, t, none⟩ (.bool true)) w0.heap.size n (seenB p (j + 1))) := by
                  have h := HS3.out.set t (by omega)
                  rw [← HPT.out] at h
                  rw [← HPT.out]
                  exact h
                have hbel4 : Below it w0 (w3.setCell ⟨w0.heap.size, t, none⟩ (.bool true)) := (below_of_grown hG3 hitw0 (fun k hk => by cases hk; exact Nat.le_refl _)).setCell (show it ≤ w0.heap.size by omega) _
                have HR4 : Hid (RowIs (w3.setCell ⟨w0.heap.size, t, none⟩ (.bool true)) it a m (fun k => .string (s k))) := HR.out.below hbel4
                have hV4 := HV.out.below hbel4
                have hmb : bm < w0.heap.size := HF.out.lt
                have HF4 : Hid (MapOf (w3.setCell ⟨w0.heap.size, t, none⟩ (.bool true)) bm N F) := by
                  have h3 := HF.out.kept hG3 (fun e => by have h := HF.out.noCell 0; rw [← e, HI0.out.1] at h; cases h) (fun v h => by rw [HI0.out.1] at h; cases h)
                  exact h3.kept hg4 (by omega) (fun v h => by rw [(HS3.out 0 (by omega)).1] at h; cases h)
                have HVt : Hid (F (s j).data.toList = some (vs t)) := by rw [← HPT.out]; exact HFv.out j hlt
                have hG4 : w0.heap.size < (w3.setCell ⟨w0.heap.size, t, none⟩ (.bool true)).heap.size := by have h1 := hG3.size; have h2 := World.block_lt_of_cell? w3 _ hcs; simp [World.setCell]; exact h2
                rcases hV4 with h0 | ⟨b1, off1, rfl, hb1, hc1⟩
                · omega
                have hcw := hc1 t (by omega)
                clear hsn hc1
                go_wp2
                generalize w3.setCell ⟨w0.heap.size, t, none⟩ (.bool true) = w4 at hg4 HI4 HS4 hbel4 HR4 HF4 hG4 hcw ⊢
                have HV77 : ∀ W' : World, w4.grownBy W' none → Calls Efzg.prog 77 #[.pointer (some ⟨it, 0, none⟩)] W' (fun e w' => Valued2 w4 W' w' (vs t) ⟨b1, off1 + t, none⟩ (.int .i64 (vs t)) e) := fun W' hW' => by
                  refine (valueC it bm m c j N F a s (vs t) W' hm hlt (HI4.out.kept hW' (by simp)) (HR4.out.below (below_of_grown hW' (by omega) (fun k hk => by cases hk))) (HF4.out.grown hW') (hsz j hlt) HVt.out).mono ?_
                  rintro e w' ⟨bv, rfl, h1, h2⟩
                  exact ⟨bv, rfl, h1, (hW'.trans h2).cell hcw (by simp), hW'.trans h2, fun x hx => h2.cell hx (by simp)⟩
                have HE33 : ∀ (W' : World) (x y : Nat), w4.grownBy W' none → W'.cell? ⟨x, 0, none⟩ = some (.int .i64 (vs t)) → W'.cell? ⟨y, 0, none⟩ = some (.int .i64 (vs t)) → Calls Efzg.prog 33 #[.pointer (some ⟨x, 0, none⟩), .iface 22 (.pointer (some ⟨y, 0, none⟩))] W' (fun e w' => e = .returned (.bool true) ∧ w'.cell? ⟨b1, off1 + t, none⟩ = some (.int .i64 (vs t)) ∧ w4.grownBy w' none) := fun W' x y hW' h1 h2 => by
                  refine (equalsIC x y (vs t) W' h1 h2).mono ?_
                  rintro e w' ⟨rfl, h3⟩
                  exact ⟨rfl, (hW'.trans h3).cell hcw (by simp), hW'.trans h3⟩
                go_region_held3 (fun W' => W'.cell? ⟨b1, off1 + t, none⟩ = some (.int .i64 (vs t))) (go_keep)
                  (first
                    | (go_at_call 77; refine (HV77 _ ?_).mono ?_; (first | exact grownBy_drew _ _ | exact (World.grownBy_alloc _ _ _).trans (grownBy_drew _ _)); rintro e w5 ⟨bv, rfl, hcb, hs5, hG5, hbx⟩)
                    | (go_at_call 33; refine (HE33 _ _ _ ?_ ?_ ?_).mono ?_; (first | exact hG5 | exact hG5.trans (World.grownBy_alloc _ _ _)); (first | go_keep | (refine hbx _ ?_; simp)); (go_keep); rintro e w6 ⟨rfl, hs6, hG6⟩))
                all_goals
                  go_wp2
                  go_roundw
                  case rel =>
                    refine ⟨j + 1, by omega, by go_num, (hG3.andThen hg4 (fun k hk => by cases hk; exact .inl (Nat.le_refl _))).trans (hG6.but _), ?_, HS4.out.kept hG6 (by simp), Nat.lt_of_lt_of_le hG4 hG6.size⟩
                    rw [show ((j + 1 : Nat) : Int) = (j : Int) + 1 by omega]
                    exact HI4.out.kept hG6 (by simp)
                  case measure => simp [intOf]; omega
              · have hfa := str_ne he
                rw [hfa] at HE
                clear hfa
                go_wp2_with (go_at_call 32; refine HE.mono ?_; rintro e w3 ⟨rfl, hg3⟩)
                go_roundw
                case rel => exact ⟨t, by omega, rfl, by go_num, by rw [HLT.out]; simp [lastIdx, he], hgt.trans hg3⟩
                case measure => simp [intOf]
        · have ejm : m = j := by omega
          subst ejm
          have hdec : decide ((m : Int) + 1 ≤ m) = false := decide_eq_false (by omega)
          rw [hdec] at HN
          clear hdec
          go_wp2_with fail
          refine HN.mono ?_
          rintro e w1 ⟨rfl, hI1, hg1⟩
          have HN2 := nextC it bm m c (m + 1) a w1 (by omega) (by rw [show ((m + 1 : Nat) : Int) = (m : Int) + 1 by omega]; exact hI1)
          have hdec2 : decide (((m + 1 : Nat) : Int) + 1 ≤ m) = false := decide_eq_false (by omega)
          rw [hdec2] at HN2
          clear hdec2
          go_wp2_with fail
          refine HN2.mono ?_
          rintro e w2 ⟨rfl, _, hg2⟩
          go_wp2
          go_ret
          have hb1 := hb0.trans (below_of_grown ((hgW.trans hg1).trans hg2) hitw0 (fun k hk => by cases hk; exact Nat.le_refl _))
          exact ⟨by simp, hb1⟩
end Go.Proofs.Yoefzw
