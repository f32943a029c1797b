/-
  THE PROOF OF 'Rows.FnImmutableMapCanIterateNilMapEmptySaid'. The frame is the shell's, but for the word on the world: 'Below' (Derived/Below.lean) in the place of 'Grown'.
-/
import Derived.Test.YoefzwIter
import Derived.ProofKit
import Derived.OpenShut
import Derived.ShutString
namespace Go.Proofs.Yoefzw.fnImmutableMapCanIterateNilMapEmpty
open Go.ChangeShapes Go.WideShapes Go.ChangeAt Go.RowKit
open Go.ChangeMaps (open_string shut_string)
set_option linter.unusedVariables false      -- a walk need not use every 'w<i>' (that an integer argument fits its kind)

theorem own : ownKnob Efzg.prog.godebug = none := by kernel_rfl

set_option maxRecDepth 100000 in
set_option maxHeartbeats 400000 in
theorem walk (a0 : Int) (w0 : (Lit.int .i64 a0).wf = true) (w : World) :
    Calls Efzg.prog 7 #[.int .i64 a0] w fun e w' => e = .returned (.bool true) ∧ Below w.heap.size w w' := by
  by_cases h1 : a0 < 0
  · go_enter Efzg.func7, Efzg.ntmps7
    go_wp2
    go_ret
    exact ⟨rfl, Below.refl _ _⟩
  · by_cases h2 : 4096 < a0
    · go_enter Efzg.func7, Efzg.ntmps7
      go_wp2
      go_ret
      exact ⟨rfl, Below.refl _ _⟩
    · go_enter Efzg.func7, Efzg.ntmps7
      go_wp2_with (first
        | (go_at_call 29; refine (can_any _ _).mono ?_; rintro e w' ⟨rfl, rfl⟩)
        | (go_at_call 30; refine (canM_any _ _).mono ?_; rintro e w' ⟨rfl, rfl⟩)
        | (go_at_call 24; refine (iterate_nil _ _ (by simp; omega) (by simp)).mono ?_; rintro e w' ⟨rfl, rfl⟩))
      go_loopw [5] (fun i wr => ∃ k : Nat, (k : Int) ≤ a0 + 1 ∧ i = .int .i64 k ∧ Below w.heap.size w wr ∧ wr.cell? ⟨w.heap.size + 1 + 1 + 1, 2, none⟩ = some (.int .i64 k) ∧ wr.cell? ⟨w.heap.size + 1 + 1 + 1, 3, none⟩ = some (.int .i64 0) ∧ wr.frozen? ⟨w.heap.size + 1 + 1 + 1, 2, none⟩ = false)
        (fun i _ => (a0 + 1 - intOf i).toNat)
      case atStart =>
        refine ⟨0, by omega, rfl, ?_, by go_simp, by go_simp, by go_simp⟩
        exact ((((Below.refl _ _).alloc (Nat.le_refl _) _).alloc (by simp) _).alloc (by simp; omega) _).alloc (by simp; omega) _
      case round =>
        obtain ⟨k, hk, rfl, hb, hc2, hc3, hf⟩ := hrel
        by_cases hlt : (k : Int) ≤ a0
        · have hmn := method_next
          have hn := next_any (w.heap.size + 1 + 1 + 1) k 0 wr ⟨by omega, by omega⟩ hc2 hc3 hf
          have hd : decide ((k : Int) + 1 ≤ 0) = false := by simp
          rw [hd] at hn
          have HN := hn
          clear hn hd
          go_wp2_with (go_at_call 74; refine HN.mono ?_; rintro e w' ⟨rfl, nq, rfl⟩)
          go_roundw
          case rel => exact ⟨k + 1, by omega, by go_num, below_drewN (hb.setCell (show w.heap.size ≤ w.heap.size + 1 + 1 + 1 by omega) _) nq, by go_simp, by go_simp, by go_simp⟩
          case measure => simp [intOf]; omega
        · go_wp2
          go_ret
          exact ⟨rfl, hb⟩

/-! ### THE ROW's STEP: WRITTEN OUT: LEAVE IT -/
set_option maxRecDepth 100000 in
theorem lifted (os : Os) (started : os.Started) (H : Type) (enc : TypeId × Value → H) :
    ReturnsInHanded {} Efzg.checked os 7 .any (Rows.fnImmutableMapCanIterateNilMapEmptySpec.pre6 enc Efzg.prog Efzg.f7 Rows.fnImmutableMapCanIterateNilMapEmptyRow.domain false) (Rows.fnImmutableMapCanIterateNilMapEmptySpec.post enc Efzg.prog Efzg.f7 false true false false) := by
  refine returnsInHanded_of_change (C := Efzg.checked) own started (by kernel_rfl) Efzg.func7
    (ChangeSpec.witness6 (enc := enc) (C := Efzg.checked) false ⟨#[], #[.int .i64 0], []⟩ 8 (by kernel_rfl) (by kernel_rfl) (by kernel_rfl) (by kernel_rfl)) ?_
  intro W base args ds gs before hval0 hW hcnd _
  have hval : ∀ (j : Nat) t v, Efzg.f7.params[j]? = some t → args[j]? = some v → Value.okWide Efzg.prog W .any base t v := hval0
  have hW' := hW
  obtain ⟨p, q, hA0, hV, rfl, hfz, hnd⟩ := hW
  have hA : DataW.TrodAll enc Efzg.prog W 0 (fun _ => true) true Efzg.f7.params.toList args.toList ds p := hA0
  rw [Efzg.params7] at hA hval
  obtain ⟨v0, vs0, d0, ds0, p0, q0, hargs, rfl, rfl, h0, r0⟩ := trodAll_cons hA
  obtain ⟨rfl, rfl, rfl⟩ := trodAll_nil r0
  obtain rfl : args = #[v0] := by cases args; simp_all
  obtain ⟨rfl, rfl⟩ := trodVars_none hV
  obtain ⟨a0, rfl, rfl, rfl, w0⟩ := open_int Efzg.underlying3 (hval 0 3 v0 rfl rfl) h0
  clear hA0 hval0
  simp only [List.append_nil] at hW'
  refine (walk a0 w0 W).mono fun e W' ⟨he, hg⟩ => ?_
  subst he
  exact ⟨_, rfl, _, _, _, [], [], [], hW', (trodAll_cons_mk (shut_bool Efzg.underlying4 _) trodAll_mk0), (trodAll_cons_mk (shut_int Efzg.underlying3 w0) trodAll_mk0), rfl, hg.frame _, fun h => by cases h⟩

theorem over : Rows.fnImmutableMapCanIterateNilMapEmptyRow.holds Efzg.pinned (OpenSpec.ofChange Rows.fnImmutableMapCanIterateNilMapEmptySpec) :=
  OpenClaim.holds_of_wide 7 Efzg.f7 rfl rfl rfl rfl rfl rfl rfl ⟨rfl, rfl, rfl, rfl, rfl⟩ rfl rfl rfl rfl rfl (by kernel_rfl) Efzg.func7 (by kernel_rfl)
    (of_decide_eq_true (by kernel_rfl)) (by unfold Func.isWrapper; first | (rw [if_pos (by decide +kernel)]; kernel_rfl) | (rw [if_neg (by decide +kernel)]; exact ⟨rfl, rfl⟩))
    (fun os started H enc _ => lifted os started H enc)

/-- ████ THE STATEMENT ████ -/
theorem proved : Rows.FnImmutableMapCanIterateNilMapEmptySaid :=
  over
#print axioms proved
end Go.Proofs.Yoefzw.fnImmutableMapCanIterateNilMapEmpty
