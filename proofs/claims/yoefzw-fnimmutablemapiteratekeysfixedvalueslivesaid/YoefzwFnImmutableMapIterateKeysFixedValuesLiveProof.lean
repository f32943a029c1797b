/-
  THE PROOF OF 'Rows.FnImmutableMapIterateKeysFixedValuesLiveSaid'.
-/
import Derived.Test.YoefzwLiveWalk
import Derived.Test.YoefzwOpen
namespace Go.Proofs.Yoefzw.fnImmutableMapIterateKeysFixedValuesLive
open Go.ChangeShapes Go.WideShapes Go.ChangeAt Go.RowKit Go.Maps Go.WideMaps
open Go.ChangeMaps (open_string shut_string)
set_option linter.unusedVariables false

/-! ### THE ROW's STEP: WRITTEN OUT: LEAVE IT -/
set_option maxRecDepth 100000 in
theorem lifted (os : Os) (started : os.Started) (H : Type) (enc : TypeId × Value → H) :
    ReturnsInHanded {} Efzg.checked os 5 .any (Rows.fnImmutableMapIterateKeysFixedValuesLiveSpec.pre6 enc Efzg.prog Efzg.f5 Rows.fnImmutableMapIterateKeysFixedValuesLiveRow.domain false) (Rows.fnImmutableMapIterateKeysFixedValuesLiveSpec.post enc Efzg.prog Efzg.f5 false true false false) := by
  refine returnsInHanded_of_change (C := Efzg.checked) own started (by kernel_rfl) Efzg.func5
    (ChangeSpec.witness6 (enc := enc) (C := Efzg.checked) false ⟨#[], #[.slice none 0 0, .slice none 0 0, .slice none 0 0, .string ByteArray.empty], []⟩ 8 (by kernel_rfl) (by kernel_rfl) (by kernel_rfl) (by kernel_rfl)) ?_
  intro W base args ds gs before hval0 hW hcnd _
  have hval : ∀ (j : Nat) t v, Efzg.f5.params[j]? = some t → args[j]? = some v → Value.okWide Efzg.prog W .any base t v := hval0
  have hW' := hW
  obtain ⟨p, q, hA0, hV, rfl, hfz, hnd⟩ := hW
  have hA : DataW.TrodAll enc Efzg.prog W 0 (fun _ => true) true Efzg.f5.params.toList args.toList ds p := hA0
  rw [Efzg.params5] at hA hval
  obtain ⟨v0, vs0, d0, ds0, p0, q0, hargs, rfl, rfl, h0, r0⟩ := trodAll_cons hA
  obtain ⟨v1, vs1, d1, ds1, p1, q1, rfl, rfl, rfl, h1, r1⟩ := trodAll_cons r0
  obtain ⟨v2, vs2, d2, ds2, p2, q2, rfl, rfl, rfl, h2, r2⟩ := trodAll_cons r1
  obtain ⟨v3, vs3, d3, ds3, p3, q3, rfl, rfl, rfl, h3, r3⟩ := trodAll_cons r2
  obtain ⟨rfl, rfl, rfl⟩ := trodAll_nil r3
  obtain rfl : args = #[v0, v1, v2, v3] := by cases args; simp_all
  obtain ⟨rfl, rfl⟩ := trodVars_none hV
  obtain ⟨a0, len0, cap0, rfl⟩ := okWide_slice Efzg.underlying60 (hval 0 60 v0 rfl rfl)
  have lt0 : ∀ x ∈ p0, x.block < W.heap.size := by obtain ⟨m, hm⟩ := h0; exact DataW.trod_lt m _ _ _ hm
  obtain ⟨ks, hn, hs, hz0, hk⟩ := strs_in h0
  obtain ⟨a1, len1, cap1, rfl⟩ := okWide_slice Efzg.underlying61 (hval 1 61 v1 rfl rfl)
  have lt1 : ∀ x ∈ p1, x.block < W.heap.size := by obtain ⟨m, hm⟩ := h1; exact DataW.trod_lt m _ _ _ hm
  obtain ⟨vs, hm, hz1, hv⟩ := ints_in h1
  obtain ⟨a2, len2, cap2, rfl⟩ := okWide_slice Efzg.underlying61 (hval 2 61 v2 rfl rfl)
  have lt2 : ∀ x ∈ p2, x.block < W.heap.size := by obtain ⟨m, hm⟩ := h2; exact DataW.trod_lt m _ _ _ hm
  obtain ⟨lt, hl, hz2, hlr⟩ := ints_in h2
  obtain ⟨a3, rfl, rfl, rfl, w3⟩ := open_string Efzg.underlying9 (hval 3 9 v3 rfl rfl) h3
  clear hA0 hval0
  refine (walk W.heap.size a0 a1 a2 len0 cap0 len1 cap1 len2 cap2 a3 ks vs lt W hn hm hl (by have h := w3; unfold maxLen at h; omega) (Nat.le_refl _) hs hz0 hz1 hz2 hk hv hlr).mono fun e W' ⟨he, bel⟩ => ?_
  subst he
  exact ⟨_, rfl, _, _, _, [], _, [], hW', trodAll_mk1 (shut_bool Efzg.underlying4 _), (trodAll_cons_mk (Below.trod laidOut (by kernel_rfl) (of_decide_eq_true (by kernel_rfl)) h0 bel lt0) (trodAll_cons_mk (Below.trod laidOut (by kernel_rfl) (of_decide_eq_true (by kernel_rfl)) h1 bel lt1) (trodAll_cons_mk (Below.trod laidOut (by kernel_rfl) (of_decide_eq_true (by kernel_rfl)) h2 bel lt2) (trodAll_cons_mk (shut_string Efzg.underlying9 w3) trodAll_mk0)))), rfl, bel.frame _, fun h => by cases h⟩

theorem over : Rows.fnImmutableMapIterateKeysFixedValuesLiveRow.holds Efzg.pinned (OpenSpec.ofChange Rows.fnImmutableMapIterateKeysFixedValuesLiveSpec) :=
  OpenClaim.holds_of_wide 5 Efzg.f5 rfl rfl rfl rfl rfl rfl rfl ⟨rfl, rfl, rfl, rfl, rfl⟩ rfl rfl rfl rfl rfl (by kernel_rfl) Efzg.func5 (by kernel_rfl)
    (of_decide_eq_true (by kernel_rfl)) (by unfold Func.isWrapper; first | (rw [if_pos (by decide +kernel)]; kernel_rfl) | (rw [if_neg (by decide +kernel)]; exact ⟨rfl, rfl⟩))
    (fun os started H enc _ => lifted os started H enc)

/-- ████ THE STATEMENT ████ -/
theorem proved : Rows.FnImmutableMapIterateKeysFixedValuesLiveSaid := over
#print axioms proved
end Go.Proofs.Yoefzw.fnImmutableMapIterateKeysFixedValuesLive
