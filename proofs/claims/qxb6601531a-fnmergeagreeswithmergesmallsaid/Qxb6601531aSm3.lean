import Derived.Test.Qxb6601531aSm2
import Derived.Test.Qxb6601531aZz
namespace Go.Proofs.Qxb6601531a
open Go.RowKit

section
variable {w : World} {bfi bfc bgi bgc n m : Nat} {f : Nat → ByteArray} {fc : Nat → Int} {g : Nat → ByteArray} {gc : Nat → Int}

theorem boxed_env4 (h1 : w.rowIs bfi 9 n (fun i => .string (f i))) (h2 : w.rowIs bfc 26 n (fun i => .int .u64 (fc i))) (h3 : w.rowIs bgi 9 m (fun i => .string (g i))) (h4 : w.rowIs bgc 26 m (fun i => .int .u64 (gc i))) :
    Env (boxed w bfi bfc bgi bgc n m) w.heap.size (w.heap.size + 1) bfi bfc bgi bgc n m f fc g gc := by
  have hA : (boxed w bfi bfc bgi bgc n m).heap[w.heap.size]? = some (Obj.cells #[Value.slice (some ⟨bfi, 0, none⟩) n n, Value.slice (some ⟨bfc, 0, none⟩) n n] 46) :=
    (Go.Deep.blk_alloc_lt _ _ _ (by simp)).trans (Go.Deep.blk_alloc_new _ _)
  have e : (w.alloc (Obj.cells #[Value.slice (some ⟨bfi, 0, none⟩) n n, Value.slice (some ⟨bfc, 0, none⟩) n n] 46)).heap.size = w.heap.size + 1 := by simp
  have hB : (boxed w bfi bfc bgi bgc n m).heap[w.heap.size + 1]? = some (Obj.cells #[Value.slice (some ⟨bgi, 0, none⟩) m m, Value.slice (some ⟨bgc, 0, none⟩) m m] 46) := by
    rw [← e]
    exact Go.Deep.blk_alloc_new _ _
  exact ⟨by simp [World.cell?, hA], by simp [World.cell?, hA], by simp [World.cell?, hB], by simp [World.cell?, hB], fun i hi => (boxed_row h1).cell hi, fun i hi => (boxed_row h2).cell hi, fun i hi => (boxed_row h3).cell hi, fun i hi => (boxed_row h4).cell hi⟩

theorem boxed_below : Below w.heap.size w (boxed w bfi bfc bgi bgc n m) := ((Below.refl _ _).alloc (Nat.le_refl _) _).alloc (by simp) _

theorem sr_boxed {w' : World} {M : List Ent} {e : Ending} (h : SR (boxed w bfi bfc bgi bgc n m) w' M e) : SR w w' M e := by
  obtain ⟨bi, oi, ci, bc, oc, cc, h1, h2, h3, h4⟩ := h
  exact ⟨bi, oi, ci, bc, oc, cc, h1, h2, h3, boxed_below.trans (h4.mono (by rw [boxed_size]; omega))⟩
end

set_option maxRecDepth 100000 in
set_option maxHeartbeats 4000000 in
theorem zzSmall (bfi bfc bgi bgc n m : Nat) (f : Nat → ByteArray) (fc : Nat → Int) (g : Nat → ByteArray) (gc : Nat → Int) (w : World) (M : List Ent) (hM : Hid (M = mu (ents f fc n 0) (ents g gc m 0)))
    (h1 : w.rowIs bfi 9 n (fun i => .string (f i))) (h2 : w.rowIs bfc 26 n (fun i => .int .u64 (fc i))) (h3 : w.rowIs bgi 9 m (fun i => .string (g i))) (h4 : w.rowIs bgc 26 m (fun i => .int .u64 (gc i)))
    (hn : 0 < n) (hm : 0 < m) (hn16 : n ≤ 16) (hm16 : m ≤ 16) (hsz : Hid (∀ i, i < n → (f i).size ≤ 9223372036854775807)) :
    Calls Try.prog 14 #[.slice (some ⟨bfi, 0, none⟩) n n, .slice (some ⟨bfc, 0, none⟩) n n, .slice (some ⟨bgi, 0, none⟩) m m, .slice (some ⟨bgc, 0, none⟩) m m] w fun e w' => SR w w' M e := by
  have HM := small_any w.heap.size (w.heap.size + 1) bfi bfc bgi bgc n m f fc g gc (boxed w bfi bfc bgi bgc n m) M hM (boxed_env4 h1 h2 h3 h4) hn hm hn16 hm16
    (by rw [boxed_size]; have := h1.lt; have := h2.lt; have := h3.lt; have := h4.lt; refine ⟨?_, ?_, ?_, ?_, ?_, ?_⟩ <;> omega) hsz
  go_enter Try.func14, Try.ntmps14
  go_wp2_with fail
  refine HM.mono ?_
  intro e w' hSR
  have hS2 : Hid (SR w w' M e) := sr_boxed hSR
  obtain ⟨bi, oi, ci, bc, oc, cc, rfl, -⟩ := hSR
  go_wp2
  go_ret2
  exact hS2.out
end Go.Proofs.Qxb6601531a
