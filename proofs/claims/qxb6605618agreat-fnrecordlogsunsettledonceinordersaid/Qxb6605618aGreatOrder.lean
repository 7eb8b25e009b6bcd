/-
  'Rows.FnRecordLogsUnsettledOnceInOrderSaid', proved.
-/
import Derived.Test.Qxb6605618aGreatRecG
import Derived.ProofKit
import Derived.OpenShut
import Derived.ShutString
import Derived.ChangeOld
import Derived.Below
import Derived.ChangeSlices
import Derived.Deep.Grids
namespace Go.Proofs.Qxb6605618aGreat
open Go.ChangeShapes Go.WideShapes Go.ChangeAt Go.RowKit
open Go.ChangeMaps (open_string shut_string)

theorem own4 : ownKnob Tryz.prog.godebug = none := by kernel_rfl
theorem laidOut4 : laidOutB Tryz.prog = true := by kernel_rfl

set_option linter.unusedVariables false in
set_option maxRecDepth 100000 in
theorem lifted4 (os : Os) (started : os.Started) (H : Type) (enc : TypeId × Value → H) :
    ReturnsInHanded {} Tryz.checked os 4 .any (Rows.fnRecordLogsUnsettledOnceInOrderSpec.pre6 enc Tryz.prog Tryz.f4 Rows.fnRecordLogsUnsettledOnceInOrderRow.domain false) (Rows.fnRecordLogsUnsettledOnceInOrderSpec.post enc Tryz.prog Tryz.f4 false true false false) := by
  refine returnsInHanded_of_change (C := Tryz.checked) own4 started (by kernel_rfl) Tryz.func4
    (ChangeSpec.witness6 (enc := enc) (C := Tryz.checked) false ⟨#[], #[.string ByteArray.empty, .string ByteArray.empty, .slice none 0 0, .slice none 0 0], []⟩ 8 (by kernel_rfl) (by kernel_rfl) (by kernel_rfl) (by kernel_rfl)) ?_
  intro W base args ds gs before hval0 hW hcnd _
  have hval : ∀ (j : Nat) t v, Tryz.f4.params[j]? = some t → args[j]? = some v → Value.okWide Tryz.prog W .any base t v := hval0
  have hW' := hW
  obtain ⟨p, q, hA0, hV, rfl, hfz, hnd⟩ := hW
  have hA : DataW.TrodAll enc Tryz.prog W 0 (fun _ => true) true Tryz.f4.params.toList args.toList ds p := hA0
  rw [Tryz.params4] at hA hval
  obtain ⟨v0, vs0, d0, ds0, p0, q0, hargs, rfl, rfl, h0, r0⟩ := trodAll_cons hA
  obtain ⟨v1, vs1, d1, ds1, p1, q1, rfl, rfl, rfl, h1, r1⟩ := trodAll_cons r0
  obtain ⟨v2, vs2, d2, ds2, p2, q2, rfl, rfl, rfl, h2, r2⟩ := trodAll_cons r1
  obtain ⟨v3, vs3, d3, ds3, p3, q3, rfl, rfl, rfl, h3, r3⟩ := trodAll_cons r2
  obtain ⟨rfl, rfl, rfl⟩ := trodAll_nil r3
  obtain rfl : args = #[v0, v1, v2, v3] := by cases args; simp_all
  obtain ⟨rfl, rfl⟩ := trodVars_none hV
  obtain ⟨a0, rfl, rfl, rfl, w0⟩ := open_string Tryz.underlying9 (hval 0 9 v0 rfl rfl) h0
  obtain ⟨a1, rfl, rfl, rfl, w1⟩ := open_string Tryz.underlying9 (hval 1 9 v1 rfl rfl) h1
  obtain ⟨ao, len, cap, rfl⟩ := okWide_slice Tryz.underlying31 (hval 2 31 v2 rfl rfl)
  obtain ⟨bo, len', cap', rfl⟩ := okWide_slice Tryz.underlying32 (hval 3 32 v3 rfl rfl)
  have k2 := h2
  have lt2 : ∀ x ∈ p2, x.block < W.heap.size := by obtain ⟨m, hm⟩ := k2; exact DataW.trod_lt m _ _ _ hm
  have k3 := h3
  have lt3 : ∀ x ∈ p3, x.block < W.heap.size := by obtain ⟨m, hm⟩ := k3; exact DataW.trod_lt m _ _ _ hm
  obtain ⟨C, hC⟩ := open_codes h2
  obtain ⟨B, hB⟩ := open_flags h3
  clear hA0 hval0
  refine (law4 a0 a1 ao bo len len' cap cap' C B W hC hB).mono fun e W' ⟨he, bel⟩ => ?_
  subst he
  exact ⟨_, rfl, _, _, _, [], _, [], hW', trodAll_mk1 (shut_bool Tryz.underlying4 _), (trodAll_cons_mk (shut_string Tryz.underlying9 w0) (trodAll_cons_mk (shut_string Tryz.underlying9 w1) (trodAll_cons_mk (Below.trod laidOut4 (by kernel_rfl) (of_decide_eq_true (by kernel_rfl)) k2 bel lt2) (trodAll_cons_mk (Below.trod laidOut4 (by kernel_rfl) (of_decide_eq_true (by kernel_rfl)) k3 bel lt3) trodAll_mk0)))), rfl, bel.frame _, fun h => by cases h⟩

theorem band4 {a b : Bool} (ha : a = true) (hb : b = true) : (a && b) = true := by rw [ha, hb]; rfl

set_option maxHeartbeats 40000000 in
theorem facts4 : joinedFacts Tryz.pinned.checked.prog 4 Tryz.f4 Rows.fnRecordLogsUnsettledOnceInOrderSpec Rows.fnRecordLogsUnsettledOnceInOrderRow = true := by
  unfold joinedFacts
  repeat' with_reducible apply band4
  all_goals as_aux_lemma => kernel_rfl

/-- THE STATEMENT. -/
theorem fnRecordLogsUnsettledOnceInOrder_proved : Rows.FnRecordLogsUnsettledOnceInOrderSaid :=
  OpenClaim.holds_of_wide 4 Tryz.f4 rfl rfl rfl rfl rfl rfl rfl ⟨rfl, rfl, rfl, rfl, rfl⟩ rfl rfl rfl rfl rfl (by kernel_rfl) Tryz.func4 facts4
    (of_decide_eq_true (by kernel_rfl)) (by unfold Func.isWrapper; first | (rw [if_pos (by decide +kernel)]; kernel_rfl) | (rw [if_neg (by decide +kernel)]; exact ⟨rfl, rfl⟩))
    (fun os started H enc _ => lifted4 os started H enc)
end Go.Proofs.Qxb6605618aGreat
