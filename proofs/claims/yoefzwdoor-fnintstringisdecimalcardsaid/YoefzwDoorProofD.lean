/-
  THE PROOF OF 'Rows.FnIntStringIsDecimalSaid' AND OF ITS TIED CARD 'Rows.FnIntStringIsDecimalCardSaid'. The frame follows the guide's MapyProofs.lean and MapyCard.lean; the ties are the given ones.
-/
import Derived.Test.YoefzwDoorWalk
import Derived.Test.YoefzwDoorTie
import Derived.Test.YoefzwDoorCards
import Derived.ProofKit
import Derived.LaidMore
import Derived.OpenShut
import Derived.Stop.Joined
import Derived.Lib.LaidTab
import Derived.SevenTiedAt
namespace Go.Proofs.YoefzwDoor.fnIntStringIsDecimal
open Go Go.ChangeShapes Go.WideShapes Go.ChangeAt Go.RowKit

theorem own : ownKnob Efzg.prog.godebug = none := by kernel_rfl
theorem tTab : (Efzg.prog.globals[0]?).map (·.type) = some 45 := by kernel_rfl
theorem uTab : Efzg.prog.underlying 45 = some (.array 20 30) := by kernel_rfl
theorem uElem : Efzg.prog.underlying 30 = some (.int .u64) := by kernel_rfl
theorem cElem : Efzg.prog.cellsOf 30 = 1 := by kernel_rfl
theorem cTab : Efzg.prog.cellsOf 45 = 20 := by kernel_rfl
theorem dTab : (Rows.laid_internal_strconv_uint64pow10 : DataW Unit) = Lib.tabData .u64 Lib.pow10Tab := rfl

/-- The door's own heap meets the condition: three closed facts. -/
theorem door_met (os : Os) (args : Array Value) : laidMetH Efzg.prog Rows.fnIntStringIsDecimalRow.laid ((World.doorLaid Efzg.prog 400 os).forCall (fun _ _ => 0) ⟨#[], args, []⟩).memory :=
  laidMetH_of_parts3 (fuel := 8) (laidMet_of_run' 8 (by kernel_rfl) (by kernel_rfl)) (by kernel_rfl) (by kernel_rfl)

/-- What the condition gives the walk: the table's cells. -/
theorem of_laid {W : World} (h : laidMetH Efzg.prog Rows.fnIntStringIsDecimalRow.laid W) : Lib.TabIs Efzg.prog W tabName .u64 Lib.pow10Tab := by
  rw [MakeChecks.laidMetH_plain _ _ _ (by kernel_rfl)] at h
  obtain ⟨ps, ⟨g0, t0, cs0, f0, p0, q0, hg0, ht0, hv0, hd0, ⟨g1, t1, cs1, f1, p1, q1, hg1, ht1, hv1, hd1, ⟨g2, t2, cs2, f2, p2, q2, hg2, ht2, hv2, hd2, _, _⟩, _⟩, _⟩, _, _⟩ := h
  have hg : Efzg.prog.globalNamed tabName = some g2 := hg2
  obtain rfl := Option.some.inj (gTab.symm.trans hg)
  obtain rfl := Option.some.inj (tTab.symm.trans ht2)
  rw [dTab] at hd2
  have e := Lib.cells_of_tab uTab uElem cElem cTab hd2
  have hv : W.var? Efzg.prog tabName = some cs2 := hv2
  unfold Lib.TabIs
  rw [hv, ← e]

set_option maxRecDepth 100000 in
theorem lifted (os : Os) (started : os.Started) (H : Type) (enc : TypeId × Value → H) :
    ReturnsInHanded {} Efzg.checked os 3 .any (fun w args => (Rows.fnIntStringIsDecimalSpec.pre enc Efzg.prog Efzg.f3 [] false w args ∧ laidMetH Efzg.prog Rows.fnIntStringIsDecimalRow.laid w) ∧ sizedMet enc Efzg.prog Efzg.f3 (OpenSpec.ofChange Rows.fnIntStringIsDecimalSpec) false w args)
      (Rows.fnIntStringIsDecimalSpec.post enc Efzg.prog Efzg.f3 false true false false) := by
  refine returnsInHanded_of_change_and (C := Efzg.checked) (X := fun w _ => laidMetH Efzg.prog Rows.fnIntStringIsDecimalRow.laid w) (fun _ _ _ hh h => h.of_heap hh) own started (by kernel_rfl) Efzg.func3
    (ChangeSpec.witness_shaped (enc := enc) (C := Efzg.checked) (os := os) (X := fun w _ => laidMetH Efzg.prog Rows.fnIntStringIsDecimalRow.laid w) false (World.doorLaid Efzg.prog 400 os) #[.int .i64 0] 8 rfl (World.shaped_of_RefB (by kernel_rfl) (by kernel_rfl)) (by kernel_rfl) (by kernel_rfl) (by kernel_rfl) (door_met os _)) ?_
  intro W base args ds gs before hval0 hW _ _ hL _
  have hval : ∀ (j : Nat) t v, Efzg.f3.params[j]? = some t → args[j]? = some v → Value.okWide Efzg.prog W .any base t v := hval0
  have hW' := hW
  obtain ⟨p, q, hA0, hV, rfl, hfz, hnd⟩ := hW
  have hA : DataW.TrodAll enc Efzg.prog W 0 (fun _ => true) true Efzg.f3.params.toList args.toList ds p := hA0
  rw [Efzg.params3] at hA hval
  obtain ⟨v0, d0, rfl, rfl, h0⟩ := trodAll_one hA
  obtain ⟨rfl, rfl⟩ := trodVars_none hV
  obtain ⟨a0, rfl, rfl, rfl, w0⟩ := open_int Efzg.underlying2 (hval 0 2 v0 rfl rfl) h0
  have hT := of_laid hL
  have bd := bounds_i64 w0
  clear hA0 hval0
  simp only [List.append_nil] at hW'
  refine (walk a0 bd.1 bd.2 W hT).mono fun e W' ⟨he, hg⟩ => ?_
  subst he
  exact ⟨_, rfl, _, _, _, [], [], [], hW', trodAll_mk1 (shut_bool Efzg.underlying4 _), trodAll_mk1 (shut_int Efzg.underlying2 w0), rfl, hg.frame _, fun h => by cases h⟩

theorem row_holds : Rows.FnIntStringIsDecimalSaid :=
  OpenClaim.holds_of_wide 3 Efzg.f3 rfl rfl rfl rfl rfl rfl rfl ⟨rfl, rfl, rfl, rfl, rfl⟩ rfl rfl rfl rfl rfl (by kernel_rfl) Efzg.func3 (by kernel_rfl)
    (of_decide_eq_true (by kernel_rfl)) (by unfold Func.isWrapper; first | (rw [if_pos (by decide +kernel)]; kernel_rfl) | (rw [if_neg (by decide +kernel)]; exact ⟨rfl, rfl⟩))
    (fun os started H enc _ => lifted os started H enc)

theorem proved : Rows.FnIntStringIsDecimalCardSaid :=
  Claim7.holds_tied_plain_at .later [] [.data, .data, .data] true Rows.fnIntStringIsDecimalCard.stood.harness false
    row_holds (fun _ h => by cases h) (by kernel_rfl) (fun _ h => by cases h) fnIntStringIsDecimal_row_tie rfl ⟨rfl, rfl⟩ (by kernel_rfl) rfl
    (fun f fn hf hfn => by
      obtain rfl : f = 3 := Option.some.inj ((show Efzg.prog.funcNamed Rows.fnIntStringIsDecimalRow.func = some 3 by kernel_rfl).symm.trans hf) |>.symm
      obtain rfl : fn = Efzg.f3 := (Option.some.inj (Efzg.func3.symm.trans hfn)).symm
      exact ⟨by kernel_rfl, fun j t ht => by
        rw [Efzg.params3] at ht
        have hm : t ∈ [2] := by simpa using Array.mem_of_getElem? ht
        have hall : ([2].all fun u => !Efzg.prog.wantsStandIn u) = true := by kernel_rfl
        exact (show Efzg.prog.wantsStandIn t = false by simpa using List.all_eq_true.1 hall t hm)⟩)
    (by kernel_rfl)
#print axioms proved
end Go.Proofs.YoefzwDoor.fnIntStringIsDecimal
