/-
  THE WALK OF FnImmutableMapIterateKeysFixedValuesLive.
-/
import Derived.Test.YoefzwLive
namespace Go.Proofs.Yoefzw.fnImmutableMapIterateKeysFixedValuesLive
open Go.RowKit Go.Maps Go.WideMaps

set_option maxRecDepth 100000 in
set_option maxHeartbeats 1000000 in
/-- The road where no guard ends the call: three slices of one length. -/
theorem walk_main (B : Nat) (a0 a1 a2 : Option Addr) (n c0 c1 c2 : Nat) (xt : ByteArray) (ks : Nat → ByteArray) (vs lt : Nat → Int) (w : World) (hn1 : n ≤ 1024) (hx1 : xt.size ≤ 4096) (hB : B ≤ w.heap.size)
    (hs : ∀ k, k < n → (ks k).size ≤ maxLen) (h0 : a0 = none → n = 0) (h1 : a1 = none → n = 0) (h2 : a2 = none → n = 0)
    (hk : RowIs w B a0 n (fun k => .string (ks k))) (hv : RowIs w B a1 n (fun k => .int .i64 (vs k))) (hl : RowIs w B a2 n (fun k => .int .i64 (lt k))) :
    Calls Efzg.prog 5 #[.slice a0 n c0, .slice a1 n c1, .slice a2 n c2, .string xt] w fun e w' => e = .returned (.bool true) ∧ Below w.heap.size w w' := by
  have H26 := bytes26 B a0 a1 a2 n c0 n c1 n c2 xt ks w (by omega) (by omega) (by omega) (by omega) hk
  have H20 := keyBytes B a0 n c0 ks w hn1 hk
  have H21 := cloneS B a0 n c0 ks w hn1 hB h0 hk
  go_enter Efzg.func5, Efzg.ntmps5
  go_wp2_with (first
    | (go_at_call 26; refine H26.mono ?_; rintro e w' ⟨⟨x, rfl⟩, rfl⟩)
    | (go_at_call 20; refine H20.mono ?_; rintro e w' ⟨⟨y, rfl⟩, rfl⟩)
    | (go_at_call 21; refine H21.mono ?_; rintro e w1 ⟨a, c, rfl, hk1, hb1, hz1⟩))
  · go_ret; exact ⟨rfl, Below.refl _ _⟩
  · go_ret; exact ⟨rfl, Below.refl _ _⟩
  refine (cloneI B a1 n c1 vs _ hn1 (Nat.le_trans hB hb1.size) h1 (hv.below (hb1.mono hB))).mono ?_
  rintro e w2 ⟨b, d, rfl, hv2, hb2, hz2⟩
  have hk2 := (hk1.below hb2).mono hb2.size
  have hbB : Below B w' w2 := (hb1.mono hB).trans (hb2.mono (Nat.le_trans hB hb1.size))
  go_wp2_with fail
  refine (cloneI B a2 n c2 lt _ hn1 (Nat.le_trans hB (Nat.le_trans hb1.size hb2.size)) h2 (hl.below hbB)).mono ?_
  rintro e w3 ⟨f, g, rfl, hl3, hb3, hz3⟩
  have hk3 := (hk2.below hb3).mono hb3.size
  have hv3 := (hv2.below hb3).mono hb3.size
  go_wp2_with fail
  refine (buildMap _ a b n c d ks vs _ hn1 (Nat.le_refl _) hs hk3 hv3).mono ?_
  rintro e w4 ⟨rfl, hm4, hb4⟩
  have hcw := hm4.alloc (.cells #[.map (some w3.heap.size)] 55)
  go_wp2_with fail
  refine (iterate_any _ _ n _ _ hn1 (by simp) hcw).mono ?_
  rintro e w5 ⟨it, ss, rfl, hit, hI, hnd, hss, hsl, hg5⟩
  have e1 := hb1.size
  have e2 := hb2.size
  have e3 := hb3.size
  have e4 := hb4.size
  have e5 : w4.heap.size + 1 ≤ it := by simpa using hit
  have b5 : Below w3.heap.size w3 w5 := (hb4.alloc e4 (.cells #[.map (some w3.heap.size)] 55)).grown hg5 (by simp; omega) (fun j hj => by cases hj)
  have b0 : Below w'.heap.size w' w5 := ((hb1.trans (hb2.mono (by omega))).trans (hb3.mono (by omega))).trans (b5.mono (by omega))
  have HM5 : Hid (MapOf w5 w3.heap.size n (tab ks vs n)) := hcw.grown hg5
  have HNO : Hid (∀ o, w5.cell? ⟨w3.heap.size, o, none⟩ = none) := HM5.out.noCell
  have HK5 : Hid (RowIs w5 w3.heap.size a n (fun k => .string (ks k))) := hk3.below b5
  have HL5 : Hid (RowIs w5 w3.heap.size f n (fun k => .int .i64 (lt k))) := hl3.below b5
  have HI : Hid (IterAt w5 it w3.heap.size 0 ss) := hI
  have HSS : Hid (∀ x, x ∈ ss ↔ ∃ k, k < n ∧ (ks k).data.toList = x) := fun x => (hss x).trans (tab_isSome ks vs x n)
  have hsl' : ss.length ≤ 1024 := by omega
  have e6 := b5.size
  clear H26 H20 H21 hk hv hl hk1 hk2 hk3 hv2 hv3 hl3 hm4 hcw hI hss hit
  go_wp2
  go_loopw [12] (fun i wr => ∃ k : Nat, k ≤ n ∧ i = .int .i64 k ∧ MapOf wr w3.heap.size (n + k) (live ks vs lt n k) ∧ w5.grownBy wr (some w3.heap.size)) (fun i _ => n - (intOf i).toNat)
  case atStart => exact ⟨0, Nat.zero_le _, rfl, HM5.out, World.grownBy.refl _ _⟩
  case round =>
    obtain ⟨k, hkn, rfl, hm, hgr⟩ := hrel
    have hkr := HK5.out.map hgr HNO.out
    have hlr := HL5.out.map hgr HNO.out
    have hez : w5.heap.size ≤ wr.heap.size := hgr.size
    by_cases hlt : k < n
    · have HLI := lastIndex w3.heap.size a n c ks (ks k) wr hn1 hkr
      rcases hkr with h9 | ⟨ba, oa, rfl, hba, hca⟩
      · omega
      rcases hlr with h9 | ⟨bf, of, rfl, hbf, hcf⟩
      · omega
      have hck := hca k hlt
      have hcl := hcf k hlt
      clear hca hcf
      by_cases hL : lastIdx ks (ks k) n = k
      · rw [hL] at HLI
        have HLV : Hid (live ks vs lt n (k + 1) = upd (live ks vs lt n k) (ks k).data.toList (lt k)) := by show (if _ then _ else _) = _; rw [if_pos hL]
        clear hL
        obtain ⟨w6, hrun, hm6, hg6⟩ := ((hm.alloc (.cells #[.int .i64 (lt k)] 26)).drew).update (by omega) (hs k hlt) (b := wr.heap.size) (v := lt k) (by simp)
        have hlt1 : ba < wr.heap.size := by omega
        have hlt2 : bf < wr.heap.size := by omega
        have hck1 : w6.cell? ⟨ba, oa + k, none⟩ = some (.string (ks k)) := hg6.cell (a := ⟨ba, oa + k, none⟩) (by show (wr.alloc _).cell? _ = _; rw [cell_alloc _ _ hlt1]; exact hck) (by simp; omega)
        have hcl1 : w6.cell? ⟨bf, of + k, none⟩ = some (.int .i64 (lt k)) := hg6.cell (a := ⟨bf, of + k, none⟩) (by show (wr.alloc _).cell? _ = _; rw [cell_alloc _ _ hlt2]; exact hcl) (by simp; omega)
        have hG6 : w5.grownBy w6 (some w3.heap.size) := ((hgr.trans (World.grownBy_alloc _ _ _)).trans (grownBy_drew _ _)).trans hg6
        clear hg6 hm
        go_wp2_with (go_at_call 27; refine HLI.mono ?_; rintro e wx ⟨rfl, hwx⟩; rw [hwx]; clear hwx wx)
        go_region_held3 (fun W => W.cell? ⟨ba, oa + k, none⟩ = some (.string (ks k)) ∧ W.cell? ⟨bf, of + k, none⟩ = some (.int .i64 (lt k))) (go_keep) (fail)
        go_wp2
        go_roundw
        case rel => exact ⟨k + 1, by omega, by go_num, by rw [HLV.out]; exact hm6, hG6⟩
        case measure => simp [intOf]; omega
      · have HLV : Hid (live ks vs lt n (k + 1) = live ks vs lt n k) := by show (if _ then _ else _) = _; rw [if_neg hL]
        have hne : (lastIdx ks (ks k) n == (k : Int)) = false := by simpa using hL
        generalize lastIdx ks (ks k) n = L at HLI hne
        clear hL
        go_wp2_with (go_at_call 27; refine HLI.mono ?_; rintro e wx ⟨rfl, hwx⟩; rw [hwx]; clear hwx wx)
        go_roundw
        case rel => exact ⟨k + 1, by omega, by go_num, by rw [HLV.out]; exact hm.mono (by omega), hgr⟩
        case measure => simp [intOf]; omega
    · have ekn : n = k := by omega
      subst ekn
      have HX := lastIndex w3.heap.size a n c ks xt wr hn1 hkr
      have e7 : w3.heap.size ≤ it := by omega
      by_cases hx : lastIdx ks xt n < 0
      · have HF : Hid (∀ (s : ByteArray) (j : Nat), lastIdx ks s n = j → upd (live ks vs lt n n) xt.data.toList 0 s.data.toList = some (lt j)) := fun s j hj => by
          have hne : ¬ s.data.toList = xt.data.toList := fun e => by rw [WideShapes.bytes_inj e] at hj; omega
          unfold upd
          rw [if_neg hne]
          exact live_last ks vs lt n s j hj n (lastIdx_at ks s j n hj).1
        obtain ⟨w6, hrun, hm6, hg6⟩ := (hm.alloc (.cells #[.int .i64 0] 26)).update (by omega) (show xt.size ≤ maxLen by unfold maxLen; omega) (b := wr.heap.size) (v := 0) (by simp)
        have hG6 : w5.grownBy w6 (some w3.heap.size) := (hgr.trans (World.grownBy_alloc _ _ _)).trans hg6
        have HW := walk_it it w3.heap.size _ _ a f n c g ks lt ss w6 hn1 ((HK5.out.map hG6 HNO.out).mono e7) ((HL5.out.map hG6 HNO.out).mono e7) (HI.out.map hG6 HNO.out) hm6 hnd HSS.out hsl' HF.out hs
        have hB6 : Below w'.heap.size w' w6 := b0.grown hG6 b0.size (fun j hj => by cases hj; omega)
        have hwL : (lastIdx ks xt n < 0) := hx
        generalize lastIdx ks xt n = L at HX hx hwL
        clear hg6 hG6 hm6 hm
        go_wp2_with (first
          | (go_at_call 27; refine HX.mono ?_; rintro e wx ⟨rfl, hwx⟩; rw [hwx]; clear hwx wx)
          | (go_at_call 25; refine HW.mono ?_; rintro e w7 ⟨rfl, hb7⟩))
        go_ret
        exact ⟨rfl, hB6.trans (hb7.mono (by omega))⟩
      · have HF : Hid (∀ (s : ByteArray) (j : Nat), lastIdx ks s n = j → live ks vs lt n n s.data.toList = some (lt j)) := fun s j hj => live_last ks vs lt n s j hj n (lastIdx_at ks s j n hj).1
        have HW := walk_it it w3.heap.size _ _ a f n c g ks lt ss wr hn1 (hkr.mono e7) (hlr.mono e7) (HI.out.map hgr HNO.out) hm hnd HSS.out hsl' HF.out hs
        have hB6 : Below w'.heap.size w' wr := b0.grown hgr b0.size (fun j hj => by cases hj; omega)
        generalize lastIdx ks xt n = L at HX hx
        clear hm
        go_wp2_with (first
          | (go_at_call 27; refine HX.mono ?_; rintro e wx ⟨rfl, hwx⟩; rw [hwx]; clear hwx wx)
          | (go_at_call 25; refine HW.mono ?_; rintro e w7 ⟨rfl, hb7⟩))
        go_ret
        exact ⟨rfl, hB6.trans (hb7.mono (by omega))⟩

set_option maxRecDepth 100000 in
set_option maxHeartbeats 400000 in
theorem walk (B : Nat) (a0 a1 a2 : Option Addr) (n c0 m c1 l c2 : Nat) (xt : ByteArray) (ks : Nat → ByteArray) (vs lt : Nat → Int) (w : World) (hn : n ≤ 9223372036854775807) (hm : m ≤ 9223372036854775807) (hl : l ≤ 9223372036854775807) (hx : xt.size ≤ 9223372036854775807) (hB : B ≤ w.heap.size)
    (hs : ∀ k, k < n → (ks k).size ≤ maxLen) (h0 : a0 = none → n = 0) (h1 : a1 = none → m = 0) (h2 : a2 = none → l = 0)
    (hk : RowIs w B a0 n (fun k => .string (ks k))) (hv : RowIs w B a1 m (fun k => .int .i64 (vs k))) (hlr : RowIs w B a2 l (fun k => .int .i64 (lt k))) :
    Calls Efzg.prog 5 #[.slice a0 n c0, .slice a1 m c1, .slice a2 l c2, .string xt] w fun e w' => e = .returned (.bool true) ∧ Below w.heap.size w w' := by
  have H26 := bytes26 B a0 a1 a2 n c0 m c1 l c2 xt ks w hn hm hl hx hk
  by_cases hn1 : n ≤ 1024
  · by_cases hm1 : m ≤ 1024
    · by_cases hl1 : l ≤ 1024
      · by_cases hx1 : xt.size ≤ 4096
        · by_cases hnm : n = m
          · by_cases hnl : n = l
            · subst hnm
              subst hnl
              exact walk_main B a0 a1 a2 n c0 c1 c2 xt ks vs lt w hn1 hx1 hB hs h0 h1 h2 hk hv hlr
            · subst hnm
              have H20 := keyBytes B a0 n c0 ks w hn1 hk
              go_enter Efzg.func5, Efzg.ntmps5
              go_wp2_with (first
                | (go_at_call 26; refine H26.mono ?_; rintro e w' ⟨⟨x, rfl⟩, rfl⟩)
                | (go_at_call 20; refine H20.mono ?_; rintro e w' ⟨⟨y, rfl⟩, rfl⟩))
              all_goals (go_ret; exact ⟨rfl, Below.refl _ _⟩)
          · have H20 := keyBytes B a0 n c0 ks w hn1 hk
            have hnm' : ((n : Int) != (m : Int)) = true := by simp; omega
            go_enter Efzg.func5, Efzg.ntmps5
            go_wp2_with (first
              | (go_at_call 26; refine H26.mono ?_; rintro e w' ⟨⟨x, rfl⟩, rfl⟩)
              | (go_at_call 20; refine H20.mono ?_; rintro e w' ⟨⟨y, rfl⟩, rfl⟩))
            all_goals (go_ret; exact ⟨rfl, Below.refl _ _⟩)
        · go_enter Efzg.func5, Efzg.ntmps5
          go_wp2_with (go_at_call 26; refine H26.mono ?_; rintro e w' ⟨⟨x, rfl⟩, rfl⟩)
          all_goals (go_ret; exact ⟨rfl, Below.refl _ _⟩)
      · go_enter Efzg.func5, Efzg.ntmps5
        go_wp2_with (go_at_call 26; refine H26.mono ?_; rintro e w' ⟨⟨x, rfl⟩, rfl⟩)
        all_goals (go_ret; exact ⟨rfl, Below.refl _ _⟩)
    · go_enter Efzg.func5, Efzg.ntmps5
      go_wp2_with (go_at_call 26; refine H26.mono ?_; rintro e w' ⟨⟨x, rfl⟩, rfl⟩)
      all_goals (go_ret; exact ⟨rfl, Below.refl _ _⟩)
  · go_enter Efzg.func5, Efzg.ntmps5
    go_wp2_with (go_at_call 26; refine H26.mono ?_; rintro e w' ⟨⟨x, rfl⟩, rfl⟩)
    all_goals (go_ret; exact ⟨rfl, Below.refl _ _⟩)

end Go.Proofs.Yoefzw.fnImmutableMapIterateKeysFixedValuesLive
