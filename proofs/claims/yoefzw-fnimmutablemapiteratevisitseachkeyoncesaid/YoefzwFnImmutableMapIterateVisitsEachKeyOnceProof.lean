/-
  THE PROOF OF 'Rows.FnImmutableMapIterateVisitsEachKeyOnceSaid'.
-/
import Derived.Test.YoefzwWalkAll
import Derived.Test.YoefzwOpen
namespace Go.Proofs.Yoefzw.fnImmutableMapIterateVisitsEachKeyOnce
open Go.ChangeShapes Go.WideShapes Go.ChangeAt Go.RowKit Go.Maps Go.WideMaps
set_option linter.unusedVariables false

set_option maxRecDepth 100000 in
set_option maxHeartbeats 400000 in
theorem walk (B : Nat) (a0 a1 : Option Addr) (n c0 m c1 : Nat) (ks : Nat → ByteArray) (vs : Nat → Int) (w : World) (hn : n ≤ 9223372036854775807) (hm : m ≤ 9223372036854775807) (hB : B ≤ w.heap.size)
    (hs : ∀ k, k < n → (ks k).size ≤ maxLen) (h0 : a0 = none → n = 0) (h1 : a1 = none → m = 0) (hk : RowIs w B a0 n (fun k => .string (ks k))) (hv : RowIs w B a1 m (fun k => .int .i64 (vs k))) :
    Calls Efzg.prog 4 #[.slice a0 n c0, .slice a1 m c1] w fun e w' => e = .returned (.bool true) ∧ Below w.heap.size w w' := by
  have H19 := bytes19 B a0 a1 n c0 m c1 ks w hn hm hk
  by_cases hn1 : n ≤ 1024
  · by_cases hm1 : m ≤ 1024
    · have H20 := keyBytes B a0 n c0 ks w hn1 hk
      by_cases hnm : n = m
      · subst hnm
        have H21 := cloneS B a0 n c0 ks w hn1 hB h0 hk
        go_enter Efzg.func4, Efzg.ntmps4
        go_wp2_with (first
          | (go_at_call 19; refine H19.mono ?_; rintro e w' ⟨⟨x, rfl⟩, rfl⟩)
          | (go_at_call 20; refine H20.mono ?_; rintro e w' ⟨⟨y, rfl⟩, rfl⟩)
          | (go_at_call 21; refine H21.mono ?_; rintro e w1 ⟨a, c, rfl, hk1, hb1, hz1⟩))
        · go_ret; exact ⟨rfl, Below.refl _ _⟩
        · go_ret; exact ⟨rfl, Below.refl _ _⟩
        refine (cloneI B a1 n c1 vs _ hn1 (Nat.le_trans hB hb1.size) h1 (hv.below (hb1.mono hB))).mono ?_
        rintro e w2 ⟨b, d, rfl, hv2, hb2, hz2⟩
        have hk2 := (hk1.below hb2).mono hb2.size
        go_wp2_with fail
        refine (buildMap _ a b n c d ks vs _ hn1 (Nat.le_refl _) hs hk2 hv2).mono ?_
        rintro e w3 ⟨rfl, hm3, hb3⟩
        have hcw := hm3.alloc (.cells #[.map (some w2.heap.size)] 55)
        go_wp2_with fail
        refine (iterate_any _ _ n _ _ hn1 (by simp) hcw).mono ?_
        rintro e w4 ⟨it, ss, rfl, hit, hI, hnd, hss, hsl, hg4⟩
        have e3 : w'.heap.size ≤ w3.heap.size := Nat.le_trans hb1.size (Nat.le_trans hb2.size hb3.size)
        have b1 := (hb1.trans (hb2.mono hb1.size)).trans (hb3.mono (Nat.le_trans hb1.size hb2.size))
        have b2 := (b1.alloc e3 (.cells #[.map (some w2.heap.size)] 55)).grown hg4 (by simp; omega) (fun j hj => by cases hj)
        have e4 : w3.heap.size + 1 ≤ it := by simpa using hit
        have b3 : Below w2.heap.size w2 w4 := (hb3.alloc hb3.size (.cells #[.map (some w2.heap.size)] 55)).grown hg4 (by have := hb3.size; simp; omega) (fun j hj => by cases hj)
        have e5 := hb3.size
        have HW := walk_it it _ n _ a b n c d ks vs ss w4 hn1 ((hk2.below b3).mono (by omega)) ((hv2.below b3).mono (by omega)) hI (hcw.grown hg4) hnd (fun x => (hss x).trans (tab_isSome ks vs x n)) (by omega) (fun s j hj => tab_last ks vs s j n hj) hs
        go_wp2_with fail
        refine HW.mono ?_
        rintro e w5 ⟨rfl, hb5⟩
        go_wp2
        go_ret
        exact ⟨rfl, b2.trans (hb5.mono (by omega))⟩
      · go_enter Efzg.func4, Efzg.ntmps4
        go_wp2_with (first
          | (go_at_call 19; refine H19.mono ?_; rintro e w' ⟨⟨x, rfl⟩, rfl⟩)
          | (go_at_call 20; refine H20.mono ?_; rintro e w' ⟨⟨y, rfl⟩, rfl⟩))
        all_goals (go_ret; exact ⟨rfl, Below.refl _ _⟩)
    · go_enter Efzg.func4, Efzg.ntmps4
      go_wp2_with (go_at_call 19; refine H19.mono ?_; rintro e w' ⟨⟨x, rfl⟩, rfl⟩)
      all_goals (go_ret; exact ⟨rfl, Below.refl _ _⟩)
  · go_enter Efzg.func4, Efzg.ntmps4
    go_wp2_with (go_at_call 19; refine H19.mono ?_; rintro e w' ⟨⟨x, rfl⟩, rfl⟩)
    all_goals (go_ret; exact ⟨rfl, Below.refl _ _⟩)
/-! ### THE ROW's STEP: WRITTEN OUT: LEAVE IT -/
set_option maxRecDepth 100000 in
theorem lifted (os : Os) (started : os.Started) (H : Type) (enc : TypeId × Value → H) :
    ReturnsInHanded {} Efzg.checked os 4 .any (Rows.fnImmutableMapIterateVisitsEachKeyOnceSpec.pre6 enc Efzg.prog Efzg.f4 Rows.fnImmutableMapIterateVisitsEachKeyOnceRow.domain false) (Rows.fnImmutableMapIterateVisitsEachKeyOnceSpec.post enc Efzg.prog Efzg.f4 false true false false) := by
  refine returnsInHanded_of_change (C := Efzg.checked) own started (by kernel_rfl) Efzg.func4
    (ChangeSpec.witness6 (enc := enc) (C := Efzg.checked) false ⟨#[], #[.slice none 0 0, .slice none 0 0], []⟩ 8 (by kernel_rfl) (by kernel_rfl) (by kernel_rfl) (by kernel_rfl)) ?_
  intro W base args ds gs before hval0 hW hcnd _
  have hval : ∀ (j : Nat) t v, Efzg.f4.params[j]? = some t → args[j]? = some v → Value.okWide Efzg.prog W .any base t v := hval0
  have hW' := hW
  obtain ⟨p, q, hA0, hV, rfl, hfz, hnd⟩ := hW
  have hA : DataW.TrodAll enc Efzg.prog W 0 (fun _ => true) true Efzg.f4.params.toList args.toList ds p := hA0
  rw [Efzg.params4] at hA hval
  obtain ⟨v0, vs0, d0, ds0, p0, q0, hargs, rfl, rfl, h0, r0⟩ := trodAll_cons hA
  obtain ⟨v1, vs1, d1, ds1, p1, q1, rfl, rfl, rfl, h1, r1⟩ := trodAll_cons r0
  obtain ⟨rfl, rfl, rfl⟩ := trodAll_nil r1
  obtain rfl : args = #[v0, v1] := by cases args; simp_all
  obtain ⟨rfl, rfl⟩ := trodVars_none hV
  obtain ⟨a0, len0, cap0, rfl⟩ := okWide_slice Efzg.underlying60 (hval 0 60 v0 rfl rfl)
  have lt0 : ∀ x ∈ p0, x.block < W.heap.size := by obtain ⟨m, hm⟩ := h0; exact DataW.trod_lt m _ _ _ hm
  obtain ⟨ks, hn, hs, hz0, hk⟩ := strs_in h0
  obtain ⟨a1, len1, cap1, rfl⟩ := okWide_slice Efzg.underlying61 (hval 1 61 v1 rfl rfl)
  have lt1 : ∀ x ∈ p1, x.block < W.heap.size := by obtain ⟨m, hm⟩ := h1; exact DataW.trod_lt m _ _ _ hm
  obtain ⟨vs, hm, hz1, hv⟩ := ints_in h1
  clear hA0 hval0
  refine (walk W.heap.size a0 a1 len0 cap0 len1 cap1 ks vs W hn hm (Nat.le_refl _) hs hz0 hz1 hk hv).mono fun e W' ⟨he, bel⟩ => ?_
  subst he
  exact ⟨_, rfl, _, _, _, [], _, [], hW', trodAll_mk1 (shut_bool Efzg.underlying4 _), (trodAll_cons_mk (Below.trod laidOut (by kernel_rfl) (of_decide_eq_true (by kernel_rfl)) h0 bel lt0) (trodAll_cons_mk (Below.trod laidOut (by kernel_rfl) (of_decide_eq_true (by kernel_rfl)) h1 bel lt1) trodAll_mk0)), rfl, bel.frame _, fun h => by cases h⟩

theorem over : Rows.fnImmutableMapIterateVisitsEachKeyOnceRow.holds Efzg.pinned (OpenSpec.ofChange Rows.fnImmutableMapIterateVisitsEachKeyOnceSpec) :=
  OpenClaim.holds_of_wide 4 Efzg.f4 rfl rfl rfl rfl rfl rfl rfl ⟨rfl, rfl, rfl, rfl, rfl⟩ rfl rfl rfl rfl rfl (by kernel_rfl) Efzg.func4 (by kernel_rfl)
    (of_decide_eq_true (by kernel_rfl)) (by unfold Func.isWrapper; first | (rw [if_pos (by decide +kernel)]; kernel_rfl) | (rw [if_neg (by decide +kernel)]; exact ⟨rfl, rfl⟩))
    (fun os started H enc _ => lifted os started H enc)

/-- ████ THE STATEMENT ████ -/
theorem proved : Rows.FnImmutableMapIterateVisitsEachKeyOnceSaid := over
#print axioms proved
end Go.Proofs.Yoefzw.fnImmutableMapIterateVisitsEachKeyOnce
