/- The proof of Rows.FnPruneChangesExactSaid; the frame after the shells given with the seed. -/
import Derived.Test.Qxb6601691aRows
import Derived.Test.Qxb6601691aPrune5
import Derived.WalkKit
import Derived.ProofKit
import Derived.OpenShut
import Derived.ShutString
import Derived.ChangeOld
import Derived.Below
import Derived.Deep.Slices
import Derived.Deep.Strs
namespace Go.Proofs.Qxb6601691a.fnPruneChangesExact
open Go.ChangeShapes Go.WideShapes Go.ChangeAt Go.RowKit
open Go.ChangeMaps (open_string shut_string)
open Go.Deep (open_slice choose_lt trod_struct3)
set_option linter.unusedVariables false

theorem own : ownKnob Try.prog.godebug = none := by kernel_rfl
theorem laidOut : laidOutB Try.prog = true := by kernel_rfl
theorem cells48 : Try.prog.cellsOf 48 = 3 := by kernel_rfl
theorem cells23 : Try.prog.cellsOf 23 = 1 := by kernel_rfl
theorem cells4 : Try.prog.cellsOf 4 = 1 := by kernel_rfl

/-- A slice of changes that came in, opened: what the walk is told of it. -/
theorem open_changes {H : Type} {enc : TypeId × Value → H} {W : World} {sp : Nat → Bool} {held : Bool} {fuel : Nat} {a : Option Addr} {len cap : Nat} {y : DataW H × List MemPlace}
    (h : DataW.trod enc Try.prog W 0 sp held fuel 22 [.slice a len cap] = some y) : (a = none → len = 0) ∧ ∃ X, CA W a len X := by
  rcases open_slice Try.underlying22 h with ⟨hcs, -⟩ | ⟨ad, len', cap', m, n, D, Pl, hcs, -, hl, -, hm, -, hx⟩
  · simp at hcs
    obtain ⟨rfl, rfl, rfl⟩ := hcs
    exact ⟨fun _ => rfl, fun _ => (0, 0, false), fun h => by omega⟩
  · simp at hcs
    obtain ⟨rfl, rfl, rfl⟩ := hcs
    refine ⟨fun h => (by cases h), ?_⟩
    have hlm : len ≤ m := by rw [hm]; split <;> omega
    rw [cells48] at hx
    obtain ⟨X, hX⟩ := choose_lt (α := Chg) (n := m) (p := fun i c => W.cell? (ad.add (i * 3)) = some (.int .u64 c.1) ∧ W.cell? ((ad.add (i * 3)).add 1) = some (.int .u64 c.2.1) ∧ W.cell? ((ad.add (i * 3)).add 2) = some (.bool c.2.2)) (fun i hi => by
      obtain ⟨cs', h1, h2⟩ := hx i hi
      obtain ⟨-, hlen, hcell⟩ := World.cells?_some h1
      obtain ⟨y0, y1, y2, k, -, -, t0, t1, t2⟩ := trod_struct3 Try.underlying48 h2
      rw [cells23] at t0 t1
      rw [cells4] at t2
      obtain ⟨n0, e0, -, -⟩ := DataW.trod_int Try.underlying23 t0
      obtain ⟨n1, e1, -, -⟩ := DataW.trod_int Try.underlying23 t1
      obtain ⟨b2, e2, -⟩ := DataW.trod_bool Try.underlying4 t2
      obtain ⟨v0, v1, v2, rfl⟩ : ∃ v0 v1 v2, cs' = [v0, v1, v2] := by
        match cs', hlen with
        | [v0, v1, v2], _ => exact ⟨v0, v1, v2, rfl⟩
      simp at e0 e1 e2
      subst e0 e1 e2
      have q0 := hcell 0 (by omega)
      have q1 := hcell 1 (by omega)
      have q2 := hcell 2 (by omega)
      refine ⟨(n0, n1, b2), ?_, ?_, ?_⟩
      · simpa [Addr.add] using q0
      · simpa using q1
      · simpa using q2)
    refine ⟨X, fun hn => ?_⟩
    obtain ⟨b, o, spot⟩ := ad
    have hspot : spot = none := by simpa [Addr.add] using World.cell?_spot (hX 0 (by omega)).1
    subst hspot
    refine ⟨b, o, rfl, fun i hi => ?_⟩
    obtain ⟨q0, q1, q2⟩ := hX i (by omega)
    rw [add_plain] at q0 q1 q2
    rw [add_plain] at q1 q2
    exact ⟨q0, q1, q2⟩

set_option maxRecDepth 100000 in
theorem lifted (os : Os) (started : os.Started) (H : Type) (enc : TypeId × Value → H) :
    ReturnsInHanded {} Try.checked os 3 .any (Rows.fnPruneChangesExactSpec.pre6 enc Try.prog Try.f3 Rows.fnPruneChangesExactRow.domain false) (Rows.fnPruneChangesExactSpec.post enc Try.prog Try.f3 false true false false) := by
  refine returnsInHanded_of_change (C := Try.checked) own started (by kernel_rfl) Try.func3
    (ChangeSpec.witness6 (enc := enc) (C := Try.checked) false ⟨#[], #[.slice none 0 0, .int .u64 0], []⟩ 8 (by kernel_rfl) (by kernel_rfl) (by kernel_rfl) (by kernel_rfl)) ?_
  intro W base args ds gs before hval0 hW hcnd _
  have hval : ∀ (j : Nat) t v, Try.f3.params[j]? = some t → args[j]? = some v → Value.okWide Try.prog W .any base t v := hval0
  have hW' := hW
  obtain ⟨p, q, hA0, hV, rfl, hfz, hnd⟩ := hW
  have hA : DataW.TrodAll enc Try.prog W 0 (fun _ => true) true Try.f3.params.toList args.toList ds p := hA0
  rw [Try.params3] at hA hval
  obtain ⟨v0, vs0, d0, ds0, p0, q0, hargs, rfl, rfl, h0, r0⟩ := trodAll_cons hA
  obtain ⟨v1, vs1, d1, ds1, p1, q1, rfl, rfl, rfl, h1, r1⟩ := trodAll_cons r0
  obtain ⟨rfl, rfl, rfl⟩ := trodAll_nil r1
  obtain rfl : args = #[v0, v1] := by cases args; simp_all
  obtain ⟨rfl, rfl⟩ := trodVars_none hV
  obtain ⟨a0, len0, cap0, rfl⟩ := okWide_slice Try.underlying22 (hval 0 22 v0 rfl rfl)
  have k0 := h0
  have lt0 : ∀ x ∈ p0, x.block < W.heap.size := by obtain ⟨m, hm⟩ := k0; exact DataW.trod_lt m _ _ _ hm
  obtain ⟨e0, X, hX⟩ : (a0 = none → len0 = 0) ∧ ∃ X, CA W a0 len0 X := by
    obtain ⟨fuel, hf⟩ := h0
    exact open_changes (by simpa [Value.cells] using hf)
  obtain ⟨a1, rfl, rfl, rfl, w1⟩ := open_int Try.underlying23 (hval 1 23 v1 rfl rfl) h1
  clear hA0 hval0
  refine (prune_law a0 len0 cap0 X a1 W e0 hX).mono fun e W' ⟨he, bel⟩ => ?_
  subst he
  exact ⟨_, rfl, _, _, _, [], _, [], hW', trodAll_mk1 (shut_bool Try.underlying4 _), (trodAll_cons_mk (Below.trod laidOut (by kernel_rfl) (of_decide_eq_true (by kernel_rfl)) k0 bel lt0) (trodAll_cons_mk (shut_int Try.underlying23 w1) trodAll_mk0)), rfl, bel.frame _, fun h => by cases h⟩

theorem over : Rows.fnPruneChangesExactRow.holds Try.pinned (OpenSpec.ofChange Rows.fnPruneChangesExactSpec) :=
  OpenClaim.holds_of_wide 3 Try.f3 rfl rfl rfl rfl rfl rfl rfl ⟨rfl, rfl, rfl, rfl, rfl⟩ rfl rfl rfl rfl rfl (by kernel_rfl) Try.func3 (by kernel_rfl)
    (of_decide_eq_true (by kernel_rfl)) (by unfold Func.isWrapper; first | (rw [if_pos (by decide +kernel)]; kernel_rfl) | (rw [if_neg (by decide +kernel)]; exact ⟨rfl, rfl⟩))
    (fun os started H enc _ => lifted os started H enc)

/-- THE STATEMENT -/
theorem proved : Rows.FnPruneChangesExactSaid := over
#print axioms proved
end Go.Proofs.Qxb6601691a.fnPruneChangesExact
