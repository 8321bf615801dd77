import Derived.WalkKit
import Derived.Deep.OwnRows
namespace Go.Proofs.Qxb6601531a

/-- A block of cells, none of them frozen. -/
def PlainB (w : World) (b : Nat) : Prop := ∃ c t, w.heap[b]? = some (.cells c t (0, 0))

theorem PlainB.setCell {w : World} {b : Nat} (h : PlainB w b) (o : Nat) (v : Value) : PlainB (w.setCell ⟨b, o, none⟩ v) b := by
  obtain ⟨c, t, hb⟩ := h
  exact ⟨c.setIfInBounds o v, t, by simp [World.setCell, Array.getElem?_modify, hb]⟩

theorem PlainB.setCells {b : Nat} : ∀ (vs : List Value) (o : Nat) (w : World), PlainB w b → PlainB (w.setCells b o vs) b
  | [], _, _, h => h
  | v :: vs, o, _, h => PlainB.setCells vs (o + 1) _ (h.setCell o v)

theorem PlainB.of_block {w w' : World} {b : Nat} (h : PlainB w b) (e : w'.heap[b]? = w.heap[b]?) : PlainB w' b := by
  obtain ⟨c, t, hb⟩ := h
  exact ⟨c, t, e.trans hb⟩
end Go.Proofs.Qxb6601531a
