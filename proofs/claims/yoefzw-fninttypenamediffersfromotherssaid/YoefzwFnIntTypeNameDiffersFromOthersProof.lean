/-
  THE PROOF OF 'Rows.FnIntTypeNameDiffersFromOthersSaid'. The frame is the shell's, but for the word on the world: 'Below' (Derived/Below.lean) in the place of 'Grown'.
-/
import Derived.Test.YoefzwDecimal
import Derived.ProofKit
import Derived.OpenShut
import Derived.ShutString
namespace Go.Proofs.Yoefzw.fnIntTypeNameDiffersFromOthers
open Go.ChangeShapes Go.WideShapes Go.ChangeAt Go.RowKit
open Go.ChangeMaps (open_string shut_string)
set_option linter.unusedVariables false      -- a walk need not use every 'w<i>' (that an integer argument fits its kind)

theorem own : ownKnob Efzg.prog.godebug = none := by kernel_rfl

set_option maxRecDepth 100000 in
set_option maxHeartbeats 400000 in
theorem walk (a0 : Int) (h1 : -9223372036854775808 ≤ a0) (h2 : a0 ≤ 9223372036854775807) (w : World) :
    Calls Efzg.prog 3 #[.int .i64 a0] w fun e w' => e = .returned (.bool true) ∧ Below w.heap.size w w' := by
  go_enter Efzg.func3, Efzg.ntmps3
  go_wp2_with (first | (go_at_call 11; refine (decimal_any a0 _ h1 h2).mono ?_; rintro e w1 ⟨rfl, hb⟩) | go_in)
  have b0 : Below w.heap.size w w1 := ((((Below.refl _ w).alloc (Nat.le_refl _) _).alloc (by simp) _).alloc (by simp; omega) _).trans (hb.mono (by simp; omega))
  have hz := b0.size
  go_ret
  refine ⟨rfl, ?_⟩
  repeat (first | exact b0 | (refine Below.alloc ?_ (by simp; omega) _) | (refine Below.alloc ?_ hz _))

/-! ### THE ROW's STEP: WRITTEN OUT: LEAVE IT -/
set_option maxRecDepth 100000 in
theorem lifted (os : Os) (started : os.Started) (H : Type) (enc : TypeId × Value → H) :
    ReturnsInHanded {} Efzg.checked os 3 .any (Rows.fnIntTypeNameDiffersFromOthersSpec.pre6 enc Efzg.prog Efzg.f3 Rows.fnIntTypeNameDiffersFromOthersRow.domain false) (Rows.fnIntTypeNameDiffersFromOthersSpec.post enc Efzg.prog Efzg.f3 false true false false) := by
  refine returnsInHanded_of_change (C := Efzg.checked) own started (by kernel_rfl) Efzg.func3
    (ChangeSpec.witness6 (enc := enc) (C := Efzg.checked) false ⟨#[], #[.int .i64 0], []⟩ 8 (by kernel_rfl) (by kernel_rfl) (by kernel_rfl) (by kernel_rfl)) ?_
  intro W base args ds gs before hval0 hW hcnd _
  have hval : ∀ (j : Nat) t v, Efzg.f3.params[j]? = some t → args[j]? = some v → Value.okWide Efzg.prog W .any base t v := hval0
  have hW' := hW
  obtain ⟨p, q, hA0, hV, rfl, hfz, hnd⟩ := hW
  have hA : DataW.TrodAll enc Efzg.prog W 0 (fun _ => true) true Efzg.f3.params.toList args.toList ds p := hA0
  rw [Efzg.params3] at hA hval
  obtain ⟨v0, vs0, d0, ds0, p0, q0, hargs, rfl, rfl, h0, r0⟩ := trodAll_cons hA
  obtain ⟨rfl, rfl, rfl⟩ := trodAll_nil r0
  obtain rfl : args = #[v0] := by cases args; simp_all
  obtain ⟨rfl, rfl⟩ := trodVars_none hV
  obtain ⟨a0, rfl, rfl, rfl, w0⟩ := open_int Efzg.underlying2 (hval 0 2 v0 rfl rfl) h0
  clear hA0 hval0
  simp only [List.append_nil] at hW'
  have bd := bounds_i64 w0
  refine (walk a0 bd.1 bd.2 W).mono fun e W' ⟨he, hg⟩ => ?_
  subst he
  exact ⟨_, rfl, _, _, _, [], [], [], hW', (trodAll_cons_mk (shut_bool Efzg.underlying4 _) trodAll_mk0), (trodAll_cons_mk (shut_int Efzg.underlying2 w0) trodAll_mk0), rfl, hg.frame _, fun h => by cases h⟩

theorem over : Rows.fnIntTypeNameDiffersFromOthersRow.holds Efzg.pinned (OpenSpec.ofChange Rows.fnIntTypeNameDiffersFromOthersSpec) :=
  OpenClaim.holds_of_wide 3 Efzg.f3 rfl rfl rfl rfl rfl rfl rfl ⟨rfl, rfl, rfl, rfl, rfl⟩ rfl rfl rfl rfl rfl (by kernel_rfl) Efzg.func3 (by kernel_rfl)
    (of_decide_eq_true (by kernel_rfl)) (by unfold Func.isWrapper; first | (rw [if_pos (by decide +kernel)]; kernel_rfl) | (rw [if_neg (by decide +kernel)]; exact ⟨rfl, rfl⟩))
    (fun os started H enc _ => lifted os started H enc)

/-- ████ THE STATEMENT ████ -/
theorem proved : Rows.FnIntTypeNameDiffersFromOthersSaid :=
  over
#print axioms proved
end Go.Proofs.Yoefzw.fnIntTypeNameDiffersFromOthers
