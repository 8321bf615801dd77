import Derived.Test.Qxb6601691aProg
import Derived.WalkKit
import Derived.WalkLawsBesides
import Derived.WalkSpells
import Derived.Outline
import Derived.Deep.OwnRows
import Derived.Deep.QuietTactic
import Derived.BigQuiet
namespace Go.Proofs.Qxb6601691a
open Go.RowKit

/-- What is known of a slice of integers: where it has an element it leads to a row of cells, the numbers z i. -/
def IA (k : IntKind) (w : World) (a : Option Addr) (n : Nat) (z : Nat → Int) : Prop :=
  0 < n → ∃ b o, a = some ⟨b, o, none⟩ ∧ ∀ i, i < n → w.cell? ⟨b, o + i, none⟩ = some (.int k (z i))

theorem IA.below {k : IntKind} {w w' : World} {a : Option Addr} {n : Nat} {z : Nat → Int} (h : IA k w a n z) (hb : Below w.heap.size w w') : IA k w' a n z := by
  intro hn
  obtain ⟨b, o, ha, hc⟩ := h hn
  exact ⟨b, o, ha, fun i hi => (hb.cell (p := ⟨b, o + i, none⟩) (World.block_lt_of_cell? w _ (hc i hi))).trans (hc i hi)⟩

/-- It returned a bool, and where that is true, p. -/
def FitB (p : Prop) (e : Ending) : Prop := ∃ b, e = .returned (.bool b) ∧ (b = true → p)
theorem fitF {p : Prop} : FitB p (.returned (.bool false)) := ⟨false, rfl, by intro h; cases h⟩
theorem fitB {p : Prop} (b : Bool) (h : b = true → p) : FitB p (.returned (.bool b)) := ⟨b, rfl, h⟩

/-- It returned a slice of n integers z, in the new world. -/
def IntsR (k : IntKind) (n : Nat) (z : Nat → Int) (w w' : World) (e : Ending) : Prop := ∃ a c, e = .returned (.slice a n c) ∧ IA k w' a n z ∧ Below w.heap.size w w'
theorem intsR {k : IntKind} {n : Nat} {z : Nat → Int} {w w' : World} (a : Option Addr) (c : Nat) (h : IA k w' a n z) (hb : Below w.heap.size w w') : IntsR k n z w w' (.returned (.slice a n c)) := ⟨a, c, rfl, h, hb⟩

theorem Try.info3 : (Try.prog.info? 3).map (fun i => (i.zero, i.size, i.bytes)) = some (some (.int .i64 0), 1, 8) := by kernel_rfl
theorem Try.info23 : (Try.prog.info? 23).map (fun i => (i.zero, i.size, i.bytes)) = some (some (.int .u64 0), 1, 8) := by kernel_rfl
theorem Try.info5 : (Try.prog.info? 5).map (fun i => (i.zero, i.size, i.bytes)) = some (some (.int .u8 0), 1, 1) := by kernel_rfl

set_option maxRecDepth 100000 in
set_option maxHeartbeats 1000000 in
theorem cloneInts (a : Option Addr) (n c : Nat) (hn : n ≤ 1048576) (h0 : a = none → n = 0) (z : Nat → Int) (w : World) (hz : IA .i64 w a n z) :
    Calls Try.prog 18 #[.slice a n c] w fun e w' => IntsR .i64 n z w w' e := by
  cases a with
  | none =>
    have hq : ∀ w, (binOp .eql 31 (.slice none n c) (.slice none 0 0)).run Try.prog w = .ok (.bool true) w := fun w => Lib.run_eql_slice_nil w 31 3 _ n c 0 0 Try.underlying31
    obtain rfl := h0 rfl
    go_enter Try.func18, Try.ntmps18
    go_wp2
    go_ret
    exact intsR _ _ (by intro h; omega) (Below.refl _ _)
  | some ad =>
    have hm1 := run_make_row' (P := Try.prog) 31 3 (.int .i64 0) 8 Try.underlying31 Try.info3 rfl .i64 .i64 n (by omega) (by omega)
    have hq : ∀ w, (binOp .eql 31 (.slice (some ad) n c) (.slice none 0 0)).run Try.prog w = .ok (.bool false) w := fun w => Lib.run_eql_slice_nil w 31 3 _ n c 0 0 Try.underlying31
    go_enter Try.func18, Try.ntmps18
    go_wp2
    clear hq
    go_loopw [4] (fun i wr => ∃ k : Nat, k ≤ n ∧ i = .int .i64 k ∧ wr.rowIs w.heap.size 3 n (fun i => if i < k then .int .i64 (z i) else .int .i64 0) ∧ Below w.heap.size w wr) (fun i _ => n - (intOf i).toNat)
    case atStart => exact ⟨0, Nat.zero_le _, rfl, (World.rowIs_made w _ n 3).congr (by intro i _; simp), (Below.refl _ _).alloc (Nat.le_refl _) _⟩
    case round =>
      obtain ⟨k, hk, rfl, hr, hbel⟩ := hrel
      by_cases hlt : k < n
      · obtain ⟨b, o, ha, hc⟩ := hz (by omega)
        injection ha with ha
        subst ha
        have g1 : wr.cell? ⟨b, o + k, none⟩ = some (.int .i64 (z k)) := (hbel.cell (p := ⟨b, o + k, none⟩) (World.block_lt_of_cell? w _ (hc k hlt))).trans (hc k hlt)
        have g2 := hr.cell hlt
        have g3 := hr.frozen k
        simp only [Nat.lt_irrefl, if_false] at g2
        clear hc hz hm1
        go_wp2
        go_roundw
        case rel =>
          refine ⟨k + 1, by omega, by go_num, (hr.set k (.int .i64 (z k))).congr ?_, hbel.setCell (p := ⟨w.heap.size, k, none⟩) (Nat.le_refl _) _⟩
          intro i hi
          by_cases e : i = k
          · subst e; simp
          · simp only [e, if_false]
            by_cases e2 : i < k
            · rw [if_pos e2, if_pos (by omega)]
            · rw [if_neg e2, if_neg (by omega)]
        case measure => simp [intOf]; omega
      · clear hm1 hz
        go_wp2
        go_ret
        refine intsR _ _ (fun _ => ⟨w.heap.size, 0, rfl, fun i hi => ?_⟩) hbel
        rw [Nat.zero_add, hr.cell hi, if_pos (by omega)]

set_option maxRecDepth 100000 in
set_option maxHeartbeats 1000000 in
theorem cloneU64 (a : Option Addr) (n c : Nat) (hn : n ≤ 1048576) (h0 : a = none → n = 0) (z : Nat → Int) (w : World) (hz : IA .u64 w a n z) :
    Calls Try.prog 19 #[.slice a n c] w fun e w' => IntsR .u64 n z w w' e := by
  cases a with
  | none =>
    have hq : ∀ w, (binOp .eql 32 (.slice none n c) (.slice none 0 0)).run Try.prog w = .ok (.bool true) w := fun w => Lib.run_eql_slice_nil w 32 23 _ n c 0 0 Try.underlying32
    obtain rfl := h0 rfl
    go_enter Try.func19, Try.ntmps19
    go_wp2
    go_ret
    exact intsR _ _ (by intro h; omega) (Below.refl _ _)
  | some ad =>
    have hm1 := run_make_row' (P := Try.prog) 32 23 (.int .u64 0) 8 Try.underlying32 Try.info23 rfl .i64 .i64 n (by omega) (by omega)
    have hq : ∀ w, (binOp .eql 32 (.slice (some ad) n c) (.slice none 0 0)).run Try.prog w = .ok (.bool false) w := fun w => Lib.run_eql_slice_nil w 32 23 _ n c 0 0 Try.underlying32
    go_enter Try.func19, Try.ntmps19
    go_wp2
    clear hq
    go_loopw [4] (fun i wr => ∃ k : Nat, k ≤ n ∧ i = .int .i64 k ∧ wr.rowIs w.heap.size 23 n (fun i => if i < k then .int .u64 (z i) else .int .u64 0) ∧ Below w.heap.size w wr) (fun i _ => n - (intOf i).toNat)
    case atStart => exact ⟨0, Nat.zero_le _, rfl, (World.rowIs_made w _ n 23).congr (by intro i _; simp), (Below.refl _ _).alloc (Nat.le_refl _) _⟩
    case round =>
      obtain ⟨k, hk, rfl, hr, hbel⟩ := hrel
      by_cases hlt : k < n
      · obtain ⟨b, o, ha, hc⟩ := hz (by omega)
        injection ha with ha
        subst ha
        have g1 : wr.cell? ⟨b, o + k, none⟩ = some (.int .u64 (z k)) := (hbel.cell (p := ⟨b, o + k, none⟩) (World.block_lt_of_cell? w _ (hc k hlt))).trans (hc k hlt)
        have g2 := hr.cell hlt
        have g3 := hr.frozen k
        simp only [Nat.lt_irrefl, if_false] at g2
        clear hc hz hm1
        go_wp2
        go_roundw
        case rel =>
          refine ⟨k + 1, by omega, by go_num, (hr.set k (.int .u64 (z k))).congr ?_, hbel.setCell (p := ⟨w.heap.size, k, none⟩) (Nat.le_refl _) _⟩
          intro i hi
          by_cases e : i = k
          · subst e; simp
          · simp only [e, if_false]
            by_cases e2 : i < k
            · rw [if_pos e2, if_pos (by omega)]
            · rw [if_neg e2, if_neg (by omega)]
        case measure => simp [intOf]; omega
      · clear hm1 hz
        go_wp2
        go_ret
        refine intsR _ _ (fun _ => ⟨w.heap.size, 0, rfl, fun i hi => ?_⟩) hbel
        rw [Nat.zero_add, hr.cell hi, if_pos (by omega)]

set_option maxRecDepth 100000 in
set_option maxHeartbeats 1000000 in
theorem cloneBytes (a : Option Addr) (n c : Nat) (hn : n ≤ 1048576) (h0 : a = none → n = 0) (z : Nat → Int) (w : World) (hz : IA .u8 w a n z) :
    Calls Try.prog 23 #[.slice a n c] w fun e w' => IntsR .u8 n z w w' e := by
  cases a with
  | none =>
    have hq : ∀ w, (binOp .eql 42 (.slice none n c) (.slice none 0 0)).run Try.prog w = .ok (.bool true) w := fun w => Lib.run_eql_slice_nil w 42 5 _ n c 0 0 Try.underlying42
    obtain rfl := h0 rfl
    go_enter Try.func23, Try.ntmps23
    go_wp2
    go_ret
    exact intsR _ _ (by intro h; omega) (Below.refl _ _)
  | some ad =>
    have hm1 := run_make_row' (P := Try.prog) 42 5 (.int .u8 0) 1 Try.underlying42 Try.info5 rfl .i64 .i64 n (by omega) (by omega)
    have hq : ∀ w, (binOp .eql 42 (.slice (some ad) n c) (.slice none 0 0)).run Try.prog w = .ok (.bool false) w := fun w => Lib.run_eql_slice_nil w 42 5 _ n c 0 0 Try.underlying42
    go_enter Try.func23, Try.ntmps23
    go_wp2
    clear hq
    go_loopw [4] (fun i wr => ∃ k : Nat, k ≤ n ∧ i = .int .i64 k ∧ wr.rowIs w.heap.size 5 n (fun i => if i < k then .int .u8 (z i) else .int .u8 0) ∧ Below w.heap.size w wr) (fun i _ => n - (intOf i).toNat)
    case atStart => exact ⟨0, Nat.zero_le _, rfl, (World.rowIs_made w _ n 5).congr (by intro i _; simp), (Below.refl _ _).alloc (Nat.le_refl _) _⟩
    case round =>
      obtain ⟨k, hk, rfl, hr, hbel⟩ := hrel
      by_cases hlt : k < n
      · obtain ⟨b, o, ha, hc⟩ := hz (by omega)
        injection ha with ha
        subst ha
        have g1 : wr.cell? ⟨b, o + k, none⟩ = some (.int .u8 (z k)) := (hbel.cell (p := ⟨b, o + k, none⟩) (World.block_lt_of_cell? w _ (hc k hlt))).trans (hc k hlt)
        have g2 := hr.cell hlt
        have g3 := hr.frozen k
        simp only [Nat.lt_irrefl, if_false] at g2
        clear hc hz hm1
        go_wp2
        go_roundw
        case rel =>
          refine ⟨k + 1, by omega, by go_num, (hr.set k (.int .u8 (z k))).congr ?_, hbel.setCell (p := ⟨w.heap.size, k, none⟩) (Nat.le_refl _) _⟩
          intro i hi
          by_cases e : i = k
          · subst e; simp
          · simp only [e, if_false]
            by_cases e2 : i < k
            · rw [if_pos e2, if_pos (by omega)]
            · rw [if_neg e2, if_neg (by omega)]
        case measure => simp [intOf]; omega
      · clear hm1 hz
        go_wp2
        go_ret
        refine intsR _ _ (fun _ => ⟨w.heap.size, 0, rfl, fun i hi => ?_⟩) hbel
        rw [Nat.zero_add, hr.cell hi, if_pos (by omega)]

end Go.Proofs.Qxb6601691a
