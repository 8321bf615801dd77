/- The proof of Rows.FnLookupAnswersFirstMatchSaid; the frame after the shells given with the seed. -/
import Derived.Test.Qxb6602150aRows
import Derived.Test.Qxb6602150aChecked
import Derived.Test.Qxb6602150aLaw
import Derived.Test.Qxb6602150aOp
import Derived.WalkKit
import Derived.ProofKit
import Derived.OpenShut
import Derived.ShutString
import Derived.ChangeOld
import Derived.Below
import Derived.HandedShaped
namespace Go.Proofs.Qxb6602150a.fnLookupAnswersFirstMatch
open Go.ChangeShapes Go.WideShapes Go.ChangeAt Go.RowKit
open Go.ChangeMaps (open_string shut_string)
set_option linter.unusedVariables false

theorem own : ownKnob Try.prog.godebug = none := by kernel_rfl
theorem laidOut : laidOutB Try.prog = true := by kernel_rfl

set_option maxRecDepth 100000 in
theorem lifted (os : Os) (started : os.Started) (H : Type) (enc : TypeId × Value → H) :
    ReturnsInHanded {} Try.checked os 3 .any (Rows.fnLookupAnswersFirstMatchSpec.pre6 enc Try.prog Try.f3 Rows.fnLookupAnswersFirstMatchRow.domain false) (Rows.fnLookupAnswersFirstMatchSpec.post enc Try.prog Try.f3 false true false false) := by
  refine returnsInHanded_of_change_shaped (C := Try.checked) own started (by kernel_rfl) Try.func3
    (ChangeSpec.witness6 (enc := enc) (C := Try.checked) false ⟨#[], #[.slice none 0 0, .string ⟨#[]⟩], []⟩ 8 (by kernel_rfl) (by kernel_rfl) (by kernel_rfl) (by kernel_rfl)) ?_
  intro W base args ds gs before hval0 hW hcnd hsz _ _
  have hval : ∀ (j : Nat) t v, Try.f3.params[j]? = some t → args[j]? = some v → Value.okWide Try.prog W .any base t v := hval0
  have hW' := hW
  obtain ⟨p, q, hA0, hV, rfl, hfz, hnd⟩ := hW
  have hA : DataW.TrodAll enc Try.prog W 0 (fun _ => true) true Try.f3.params.toList args.toList ds p := hA0
  rw [Try.params3] at hA hval
  have hsz : (DataW.weightsEach Try.prog (Try.f3.params.toList ++ Rows.fnLookupAnswersFirstMatchSpec.plain.varTypes Try.prog) (ds ++ gs)).all (· ≤ reachBytes) = true := hsz
  rw [Try.params3] at hsz
  obtain ⟨v0, vs0, d0, ds0, p0, q0, hargs, rfl, rfl, h0, r0⟩ := trodAll_cons hA
  obtain ⟨v1, vs1, d1, ds1, p1, q1, rfl, rfl, rfl, h1, r1⟩ := trodAll_cons r0
  obtain ⟨rfl, rfl, rfl⟩ := trodAll_nil r1
  obtain rfl : args = #[v0, v1] := by cases args; simp_all
  obtain ⟨rfl, rfl⟩ := trodVars_none hV
  obtain ⟨a0, len0, cap0, rfl⟩ := okWide_slice Try.underlying22 (hval 0 22 v0 rfl rfl)
  have k0 := h0
  have lt0 : ∀ x ∈ p0, x.block < W.heap.size := by obtain ⟨m, hm⟩ := k0; exact DataW.trod_lt m _ _ _ hm
  have hwt : ∀ z ∈ d0.weights Try.prog 22, z ≤ reachBytes := fun z hz => of_decide_eq_true (List.all_eq_true.1 hsz z (by
    show z ∈ DataW.weightsEach Try.prog (22 :: _) (d0 :: _)
    rw [DataW.weightsEach]
    exact List.mem_append_left _ hz))
  have hwt1 : ∀ z ∈ d1.weights Try.prog 9, z ≤ reachBytes := fun z hz => of_decide_eq_true (List.all_eq_true.1 hsz z (by
    show z ∈ DataW.weightsEach Try.prog (22 :: 9 :: _) (d0 :: d1 :: _)
    rw [DataW.weightsEach, DataW.weightsEach]
    exact List.mem_append_right _ (List.mem_append_left _ hz)))
  obtain ⟨k, nl, n, ga, hR, hWt⟩ : ∃ k nl n ga, RdA W (Dn W.heap.size) k (.slice a0 len0 cap0) nl n ga ∧ WtA k n ga := by
    obtain ⟨fuel, hf⟩ := h0
    exact ⟨_, open_tree (SizeOf.sizeOf d0) fuel _ d0 p0 (by simpa [Value.cells] using hf) (Nat.le_refl _) hwt⟩
  obtain ⟨x, rfl, rfl, rfl, hxs⟩ := open_string Try.underlying9 (hval 1 9 v1 rfl rfl) h1
  have hx : x.size ≤ 140737488355328 := by
    have := hwt1 x.data.toList.length (by simp [DataW.weights])
    rw [Array.length_toList] at this
    have e : x.size = x.data.size := rfl
    have hr : reachBytes = 140737488351232 := rfl
    omega
  clear hA0 hval0 hsz hwt hwt1
  cases k with
  | zero => exact hR.elim
  | succ k =>
    refine (law3 W k _ nl n ga x hx hR hWt).mono fun e W' ⟨he, bel⟩ => ?_
    subst he
    exact ⟨_, rfl, _, _, _, [], _, [], hW', trodAll_mk1 (shut_bool Try.underlying4 _), (trodAll_cons_mk (Below.trod laidOut (by kernel_rfl) (of_decide_eq_true (by kernel_rfl)) k0 bel lt0) (trodAll_cons_mk (shut_string Try.underlying9 hxs) trodAll_mk0)), rfl, bel.frame _, fun h => by cases h⟩

theorem over : Rows.fnLookupAnswersFirstMatchRow.holds Try.pinned (OpenSpec.ofChange Rows.fnLookupAnswersFirstMatchSpec) :=
  OpenClaim.holds_of_wide 3 Try.f3 rfl rfl rfl rfl rfl rfl rfl ⟨rfl, rfl, rfl, rfl, rfl⟩ rfl rfl rfl rfl rfl (by kernel_rfl) Try.func3 (by kernel_rfl)
    (of_decide_eq_true (by kernel_rfl)) (by unfold Func.isWrapper; first | (rw [if_pos (by decide +kernel)]; kernel_rfl) | (rw [if_neg (by decide +kernel)]; exact ⟨rfl, rfl⟩))
    (fun os started H enc _ => lifted os started H enc)

/-- THE STATEMENT -/
theorem proved : Rows.FnLookupAnswersFirstMatchSaid := over
#print axioms proved
end Go.Proofs.Qxb6602150a.fnLookupAnswersFirstMatch
