/- The proof of Rows.FnInputTypeStringRoundTripCardSaid: the row, then the tied card by the builder's one call; the frame after the guide's worked map example (MapyProofs, MapyCard). -/
import Derived.Test.Qxb6602091aDoorRows
import Derived.Test.Qxb6602091aDoorTie
import Derived.Test.Qxb6602091aDoorCards
import Derived.Test.Qxb6602091aDoorShelf
import Derived.Test.Qxb6602091aDoorLaw
import Derived.WalkKit
import Derived.ProofKit
import Derived.OpenShut
import Derived.LaidMore
import Derived.Stop.Joined
import Derived.Stop.LaidErr
import Derived.Lib.LaidTab
import Derived.SevenTiedAt
namespace Go.Proofs.Qxb6602091aDoor.fnInputTypeStringRoundTrip
open Go.ChangeShapes Go.WideShapes Go.ChangeAt Go.RowKit
set_option linter.unusedVariables false

theorem own : ownKnob Tryd.prog.godebug = none := by kernel_rfl

/-- The door's own heap meets the condition: three closed facts. -/
theorem door_met (os : Os) (args : Array Value) : laidMetH Tryd.prog Rows.fnInputTypeStringRoundTripRow.laid ((World.doorLaid Tryd.prog 400 os).forCall (fun _ _ => 0) ⟨#[], args, []⟩).memory :=
  laidMetH_of_parts3 (fuel := 8) (laidMet_of_run' 8 (by kernel_rfl) (by kernel_rfl)) (by kernel_rfl) (by kernel_rfl)

set_option maxRecDepth 100000 in
/-- The table of the powers of ten, off the row's list; so strconv.Itoa's contract holds at the call. -/
theorem itoa_of_laid {W : World} (h : laidMetH Tryd.prog Rows.fnInputTypeStringRoundTripRow.laid W) (t : Int) (h0 : -9223372036854775808 ≤ t) (h1 : t ≤ 9223372036854775807) :
    Calls Tryd.prog 18 #[.int .i64 t] W fun e w' => e = .returned (.string ⟨(Lib.itoa t).toArray⟩) ∧ Below W.heap.size W w' := by
  rw [MakeChecks.laidMetH_plain _ _ _ (by kernel_rfl)] at h
  have h3 := h.tail.tail
  have htab := Lib.tabIs_of_head (k := .u64) (zs := Lib.pow10Tab) (g := 1) (t := 64) (e := 23) (n := 20) (rest := []) (by kernel_rfl) (by kernel_rfl) Tryd.underlying64 Tryd.underlying23 (by kernel_rfl) (by kernel_rfl) h3
  refine (Any.strconv_Itoa Tryd.laysM171 t h0 h1 W htab).mono ?_
  rintro e w' ⟨rfl, k, os, rfl⟩
  refine ⟨rfl, rfl, rfl, rfl, ?_, fun b hb => ?_⟩
  · show W.heap.size ≤ (W.heap ++ os).size
    simp
  · show (W.heap ++ os)[b]? = W.heap[b]?
    rw [Array.getElem?_append_left hb]

set_option maxRecDepth 100000 in
theorem lifted (os : Os) (started : os.Started) (H : Type) (enc : TypeId × Value → H) :
    ReturnsInHanded {} Tryd.checked os 3 .any (fun w args => (Rows.fnInputTypeStringRoundTripSpec.pre enc Tryd.prog Tryd.f3 [] false w args ∧ laidMetH Tryd.prog Rows.fnInputTypeStringRoundTripRow.laid w) ∧ sizedMet enc Tryd.prog Tryd.f3 (OpenSpec.ofChange Rows.fnInputTypeStringRoundTripSpec) false w args)
      (Rows.fnInputTypeStringRoundTripSpec.post enc Tryd.prog Tryd.f3 false true false false) := by
  refine returnsInHanded_of_change_and (C := Tryd.checked) (X := fun w _ => laidMetH Tryd.prog Rows.fnInputTypeStringRoundTripRow.laid w) (fun _ _ _ hh h => h.of_heap hh) own started (by kernel_rfl) Tryd.func3
    (ChangeSpec.witness_shaped (enc := enc) (C := Tryd.checked) (os := os) (X := fun w _ => laidMetH Tryd.prog Rows.fnInputTypeStringRoundTripRow.laid w) false (World.doorLaid Tryd.prog 400 os) #[.int .i64 0] 8 rfl (World.shaped_of_RefB (by kernel_rfl) (by kernel_rfl)) (by kernel_rfl) (by kernel_rfl) (by kernel_rfl) (door_met os _)) ?_
  intro W base args ds gs before hval0 hW _ _ hL _
  have hval : ∀ (j : Nat) t v, Tryd.f3.params[j]? = some t → args[j]? = some v → Value.okWide Tryd.prog W .any base t v := hval0
  have hW' := hW
  obtain ⟨p, q, hA0, hV, rfl, hfz, hnd⟩ := hW
  have hA : DataW.TrodAll enc Tryd.prog W 0 (fun _ => true) true Tryd.f3.params.toList args.toList ds p := hA0
  rw [Tryd.params3] at hA hval
  obtain ⟨v0, d0, rfl, rfl, h0⟩ := trodAll_one hA
  obtain ⟨rfl, rfl⟩ := trodVars_none hV
  obtain ⟨a0, rfl, rfl, rfl, w0⟩ := open_int Tryd.underlying3 (hval 0 3 v0 rfl rfl) h0
  clear hA0 hval0
  have hb := bounds_i64 w0
  refine (law_any a0 (by omega) (by omega) W (itoa_of_laid hL a0 (by omega) (by omega))).mono fun e W' ⟨he, bel⟩ => ?_
  subst he
  exact ⟨_, rfl, _, _, _, [], _, [], hW', trodAll_mk1 (shut_bool Tryd.underlying4 _), (trodAll_cons_mk (shut_int Tryd.underlying3 w0) trodAll_mk0), rfl, bel.frame _, fun h => by cases h⟩

/-- THE ROW -/
theorem over : Rows.FnInputTypeStringRoundTripSaid :=
  OpenClaim.holds_of_wide 3 Tryd.f3 rfl rfl rfl rfl rfl rfl rfl ⟨rfl, rfl, rfl, rfl, rfl⟩ rfl rfl rfl rfl rfl (by kernel_rfl) Tryd.func3 (by kernel_rfl)
    (of_decide_eq_true (by kernel_rfl)) (by unfold Func.isWrapper; first | (rw [if_pos (by decide +kernel)]; kernel_rfl) | (rw [if_neg (by decide +kernel)]; exact ⟨rfl, rfl⟩))
    (fun os started H enc _ => lifted os started H enc)

/-- THE TIED CARD -/
theorem proved : Rows.FnInputTypeStringRoundTripCardSaid :=
  Claim7.holds_tied_plain_at .later [] [.data, .data, .data] true (true, Rows.fnInputTypeStringRoundTripCard.stood.harness.2) false
    over (fun _ h => by cases h) (by kernel_rfl) (fun _ h => by cases h) fnInputTypeStringRoundTrip_row_tie rfl ⟨rfl, rfl⟩ (by kernel_rfl) rfl
    (fun f fn hf hfn => by
      obtain rfl : f = 3 := Option.some.inj ((show Tryd.prog.funcNamed Rows.fnInputTypeStringRoundTripRow.func = some 3 by kernel_rfl).symm.trans hf) |>.symm
      obtain rfl : fn = Tryd.f3 := (Option.some.inj (Tryd.func3.symm.trans hfn)).symm
      exact ⟨by kernel_rfl, fun j t ht => by
        rw [Tryd.params3] at ht
        have hm : t ∈ [3] := by simpa using Array.mem_of_getElem? ht
        have hall : ([3].all fun u => !Tryd.prog.wantsStandIn u) = true := by kernel_rfl
        exact (show Tryd.prog.wantsStandIn t = false by simpa using List.all_eq_true.1 hall t hm)⟩)
    (by kernel_rfl)
#print axioms proved
end Go.Proofs.Qxb6602091aDoor.fnInputTypeStringRoundTrip
