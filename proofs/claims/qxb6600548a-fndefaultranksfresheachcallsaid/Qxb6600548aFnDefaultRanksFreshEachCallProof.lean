import Derived.Test.Qxb6600548aRows
import Derived.WalkKit
import Derived.ProofKit
import Derived.OpenShut
import Derived.ShutString
import Derived.ChangeOld
import Derived.Below
import Derived.Test.Qxb6600548aDefaults
namespace Go.Proofs.Qxb6600548a.fnDefaultRanksFreshEachCall
open Go.ChangeShapes Go.WideShapes Go.ChangeAt Go.RowKit
open Go.ChangeMaps (open_string shut_string)
set_option linter.unusedVariables false      -- a walk need not use every 'w<i>' (that an integer argument fits its kind)

theorem own : ownKnob Try.prog.godebug = none := by kernel_rfl

set_option maxHeartbeats 400000 in
set_option maxRecDepth 100000 in
theorem walk (w : World) :
    Calls Try.prog 7 #[] w fun e w' => e = .returned (.bool true) ∧ Below w.heap.size w w' := by
  go_enter Try.func7, Try.ntmps7
  go_wp2_with fail
  refine (defaultRanks_cells _).mono ?_
  rintro e w1 ⟨g1, cap1, rfl, hg1, hgs1, hc1, hf1, hb1⟩
  have c0 := hc1 0 (by decide)
  have c15 := hc1 15 (by decide)
  have f0 := hf1 0
  have f15 := hf1 15
  simp [bandCells] at c0 c15
  clear hc1 hf1
  go_wp2_with fail
  refine (defaultRanks_cells _).mono ?_
  rintro e w2 ⟨g2, cap2, rfl, hg2, hgs2, hc2, hf2, hb2⟩
  have d0 := hc2 0 (by decide)
  have d15 := hc2 15 (by decide)
  simp [bandCells] at d0 d15
  have B1 : Below w.heap.size w w2 := ((hb1.setCell (by exact hg1) _).setCell (by exact hg1) _).trans (hb2.mono (by have := hb1.size; simp; omega))
  clear hc2 hf2 c0 c15 f0 f15 hb1 hb2
  go_wp2
  go_ret
  exact ⟨rfl, B1⟩

/-! ### THE ROW's STEP: WRITTEN OUT: LEAVE IT -/
set_option maxRecDepth 100000 in
theorem lifted (os : Os) (started : os.Started) (H : Type) (enc : TypeId × Value → H) :
    ReturnsInHanded {} Try.checked os 7 .any (Rows.fnDefaultRanksFreshEachCallSpec.pre6 enc Try.prog Try.f7 Rows.fnDefaultRanksFreshEachCallRow.domain false) (Rows.fnDefaultRanksFreshEachCallSpec.post enc Try.prog Try.f7 false true false false) := by
  refine returnsInHanded_of_change (C := Try.checked) own started (by kernel_rfl) Try.func7
    (ChangeSpec.witness6 (enc := enc) (C := Try.checked) false ⟨#[], #[], []⟩ 8 (by kernel_rfl) (by kernel_rfl) (by kernel_rfl) (by kernel_rfl)) ?_
  intro W base args ds gs before hval0 hW hcnd _
  have hval : ∀ (j : Nat) t v, Try.f7.params[j]? = some t → args[j]? = some v → Value.okWide Try.prog W .any base t v := hval0
  have hW' := hW
  obtain ⟨p, q, hA0, hV, rfl, hfz, hnd⟩ := hW
  have hA : DataW.TrodAll enc Try.prog W 0 (fun _ => true) true Try.f7.params.toList args.toList ds p := hA0
  rw [Try.params7] at hA hval
  obtain ⟨rfl, rfl, rfl⟩ := trodAll_none hA
  obtain ⟨rfl, rfl⟩ := trodVars_none hV
  clear hA0 hval0
  refine (walk W).mono fun e W' ⟨he, bel⟩ => ?_
  subst he
  exact ⟨_, rfl, _, _, _, [], _, [], hW', trodAll_mk1 (shut_bool Try.underlying4 _), trodAll_mk0, rfl, bel.frame _, fun h => by cases h⟩

theorem over : Rows.fnDefaultRanksFreshEachCallRow.holds Try.pinned (OpenSpec.ofChange Rows.fnDefaultRanksFreshEachCallSpec) :=
  OpenClaim.holds_of_wide 7 Try.f7 rfl rfl rfl rfl rfl rfl rfl ⟨rfl, rfl, rfl, rfl, rfl⟩ rfl rfl rfl rfl rfl (by kernel_rfl) Try.func7 (by kernel_rfl)
    (of_decide_eq_true (by kernel_rfl)) (by unfold Func.isWrapper; first | (rw [if_pos (by decide +kernel)]; kernel_rfl) | (rw [if_neg (by decide +kernel)]; exact ⟨rfl, rfl⟩))
    (fun os started H enc _ => lifted os started H enc)

/-- ████ THE STATEMENT ████ -/
theorem proved : Rows.FnDefaultRanksFreshEachCallSaid :=
  over
#print axioms proved
end Go.Proofs.Qxb6600548a.fnDefaultRanksFreshEachCall
