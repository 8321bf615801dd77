import Derived.Test.Qxb6601531aLeaf2
import Derived.Test.Qxb6601531aNewL
import Derived.WalkSpells
namespace Go.Proofs.Qxb6601531a
open Go.RowKit

set_option maxRecDepth 100000 in
set_option maxHeartbeats 1000000 in
theorem cloneStrings (b o n c : Nat) (hn : n ≤ 1048576) (f : Nat → ByteArray) (w : World) (hb : b < w.heap.size) (hc : ∀ i, i < n → w.cell? ⟨b, o + i, none⟩ = some (.string (f i))) :
    Calls Try.prog 12 #[.slice (some ⟨b, o, none⟩) n c] w fun e w' => e = .returned (.slice (some ⟨w.heap.size, 0, none⟩) n n) ∧ w'.rowIs w.heap.size 9 n (fun i => .string (f i)) ∧ w'.heap.size = w.heap.size + 1 ∧ Below w.heap.size w w' := by
  have hm1 := run_make_row' (P := Try.prog) 22 9 (.string ⟨#[]⟩) 16 Try.underlying22 Try.info9 rfl .i64 .i64 n (by omega) (by omega)
  have hq : ∀ w, (binOp .eql 22 (.slice (some ⟨b, o, none⟩) n c) (.slice none 0 0)).run Try.prog w = .ok (.bool false) w := fun w => Lib.run_eql_slice_nil w 22 9 _ n c 0 0 Try.underlying22
  go_enter Try.func12, Try.ntmps12
  go_wp2
  go_loopw [4] (fun i wr => ∃ k : Nat, k ≤ n ∧ i = .int .i64 k ∧ wr.rowIs w.heap.size 9 n (fun i => if i < k then .string (f i) else .string ⟨#[]⟩) ∧ wr.heap.size = w.heap.size + 1 ∧ Below w.heap.size w wr) (fun i _ => n - (intOf i).toNat)
  case atStart => exact ⟨0, Nat.zero_le _, rfl, (World.rowIs_made w _ n 9).congr (by intro i _; simp), by simp, (Below.refl _ _).alloc (Nat.le_refl _) _⟩
  case round =>
    obtain ⟨k, hk, rfl, hr, hz, hbel⟩ := hrel
    by_cases hlt : k < n
    · have g1 : wr.cell? ⟨b, o + k, none⟩ = some (.string (f k)) := (hbel.cell (p := ⟨b, o + k, none⟩) hb).trans (hc k hlt)
      have g2 := hr.cell hlt
      have g3 := hr.frozen k
      simp only [Nat.lt_irrefl, if_false] at g2
      go_wp2
      go_roundw
      case rel =>
        refine ⟨k + 1, by omega, by go_num, (hr.set k (.string (f k))).congr ?_, by simpa using hz, hbel.setCell (p := ⟨w.heap.size, k, none⟩) (Nat.le_refl _) _⟩
        intro i hi
        by_cases e : i = k
        · subst e; simp
        · simp only [e, if_false]
          by_cases e2 : i < k
          · rw [if_pos e2, if_pos (by omega)]
          · rw [if_neg e2, if_neg (by omega)]
      case measure => simp [intOf]; omega
    · go_wp2
      go_ret
      exact ⟨rfl, hr.congr (by intro i hi; simp; omega), hz, hbel⟩

set_option maxRecDepth 100000 in
set_option maxHeartbeats 1000000 in
theorem cloneWords (b o n c : Nat) (hn : n ≤ 1048576) (f : Nat → Int) (w : World) (hb : b < w.heap.size) (hc : ∀ i, i < n → w.cell? ⟨b, o + i, none⟩ = some (.int .u64 (f i))) :
    Calls Try.prog 13 #[.slice (some ⟨b, o, none⟩) n c] w fun e w' => e = .returned (.slice (some ⟨w.heap.size, 0, none⟩) n n) ∧ w'.rowIs w.heap.size 26 n (fun i => .int .u64 (f i)) ∧ w'.heap.size = w.heap.size + 1 ∧ Below w.heap.size w w' := by
  have hm1 := run_make_row' (P := Try.prog) 23 26 (.int .u64 0) 8 Try.underlying23 Try.info26 rfl .i64 .i64 n (by omega) (by omega)
  have hq : ∀ w, (binOp .eql 23 (.slice (some ⟨b, o, none⟩) n c) (.slice none 0 0)).run Try.prog w = .ok (.bool false) w := fun w => Lib.run_eql_slice_nil w 23 26 _ n c 0 0 Try.underlying23
  go_enter Try.func13, Try.ntmps13
  go_wp2
  go_loopw [4] (fun i wr => ∃ k : Nat, k ≤ n ∧ i = .int .i64 k ∧ wr.rowIs w.heap.size 26 n (fun i => if i < k then .int .u64 (f i) else .int .u64 0) ∧ wr.heap.size = w.heap.size + 1 ∧ Below w.heap.size w wr) (fun i _ => n - (intOf i).toNat)
  case atStart => exact ⟨0, Nat.zero_le _, rfl, (World.rowIs_made w _ n 26).congr (by intro i _; simp), by simp, (Below.refl _ _).alloc (Nat.le_refl _) _⟩
  case round =>
    obtain ⟨k, hk, rfl, hr, hz, hbel⟩ := hrel
    by_cases hlt : k < n
    · have g1 : wr.cell? ⟨b, o + k, none⟩ = some (.int .u64 (f k)) := (hbel.cell (p := ⟨b, o + k, none⟩) hb).trans (hc k hlt)
      have g2 := hr.cell hlt
      have g3 := hr.frozen k
      simp only [Nat.lt_irrefl, if_false] at g2
      go_wp2
      go_roundw
      case rel =>
        refine ⟨k + 1, by omega, by go_num, (hr.set k (.int .u64 (f k))).congr ?_, by simpa using hz, hbel.setCell (p := ⟨w.heap.size, k, none⟩) (Nat.le_refl _) _⟩
        intro i hi
        by_cases e : i = k
        · subst e; simp
        · simp only [e, if_false]
          by_cases e2 : i < k
          · rw [if_pos e2, if_pos (by omega)]
          · rw [if_neg e2, if_neg (by omega)]
      case measure => simp [intOf]; omega
    · go_wp2
      go_ret
      exact ⟨rfl, hr.congr (by intro i hi; simp; omega), hz, hbel⟩
end Go.Proofs.Qxb6601531a
