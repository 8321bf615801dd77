import Derived.Test.Qxb6601531aLaw6
import Derived.ProofKit
import Derived.OpenShut
import Derived.ShutString
import Derived.ChangeOld
import Derived.Below
import Derived.Deep.Slices
import Derived.Deep.Strs
namespace Go.Proofs.Qxb6601531a
open Go.ChangeShapes Go.WideShapes Go.ChangeAt Go.RowKit
open Go.Deep (open_strs)

theorem cells9 : Try.prog.cellsOf 9 = 1 := by kernel_rfl
theorem cells26 : Try.prog.cellsOf 26 = 1 := by kernel_rfl

section
variable {H : Type} {enc : TypeId × Value → H} {W : World} {sp : Nat → Bool} {held : Bool} {fuel : Nat} {a : Option Addr} {len cap : Nat} {y : DataW H × List MemPlace}

/-- A slice of strings that came in, opened. -/
theorem open_sa (h : DataW.trod enc Try.prog W 0 sp held fuel 22 [.slice a len cap] = some y) : ∃ f, SA W a len f := by
  rcases open_strs Try.underlying22 Try.underlying9 cells9 h with ⟨hcs, -⟩ | ⟨ad, len', cap', m, Sx, hcs, -, hl, -, hm, -, hx⟩
  · simp at hcs
    obtain ⟨rfl, rfl, rfl⟩ := hcs
    exact ⟨fun _ => ⟨#[]⟩, fun h => by omega⟩
  · simp at hcs
    obtain ⟨rfl, rfl, rfl⟩ := hcs
    have hlm : len ≤ m := by rw [hm]; split <;> omega
    refine ⟨Sx, fun hn => ?_⟩
    obtain ⟨b, o, spot⟩ := ad
    have hspot : spot = none := by simpa [Addr.add] using World.cell?_spot (hx 0 (by omega)).1
    subst hspot
    refine ⟨b, o, rfl, fun i hi => ?_⟩
    have := (hx i (by omega)).1
    rwa [add_plain] at this

/-- A slice of words that came in, opened. -/
theorem open_ua (h : DataW.trod enc Try.prog W 0 sp held fuel 23 [.slice a len cap] = some y) : ∃ u, UA W a len u ∧ ∀ i, i < len → 0 ≤ u i := by
  rcases open_ints Try.underlying23 Try.underlying26 cells26 h with ⟨hcs, -⟩ | ⟨ad, len', cap', zs, hcs, -, hl, -, hm, -, hx, hw⟩
  · simp at hcs
    obtain ⟨rfl, rfl, rfl⟩ := hcs
    exact ⟨fun _ => 0, fun h => by omega, fun i hi => by omega⟩
  · simp at hcs
    obtain ⟨rfl, rfl, rfl⟩ := hcs
    have hlm : len ≤ zs.length := by rw [hm]; split <;> omega
    refine ⟨fun i => zs.getD i 0, fun hn => ?_, fun i hi => ?_⟩
    · obtain ⟨b, o, spot⟩ := ad
      have hspot : spot = none := by simpa [Addr.add] using World.cell?_spot (hx 0 (by omega))
      subst hspot
      refine ⟨b, o, rfl, fun i hi => ?_⟩
      have := hx i (by omega)
      rwa [add_plain] at this
    · have hi' : i < zs.length := by omega
      have h1 : (decide (IntKind.u64.min ≤ zs.getD i 0) && decide (zs.getD i 0 ≤ IntKind.u64.max)) = true := hw (zs.getD i 0) (by simp [hi'])
      exact of_decide_eq_true (Bool.and_eq_true_iff.1 h1).1
end
end Go.Proofs.Qxb6601531a
