import Derived.Test.Qxb6601531aProg
import Derived.WalkKit
import Derived.WalkLawsBesides
import Derived.Outline
import Derived.Deep.OwnRows
namespace Go.Proofs.Qxb6601531a
open Go.RowKit

/-- What 'newLists' leaves: two fresh rows of n cells each, the first of empty strings, the second of zeros; they do not overlap; nothing old has turned. -/
structure NL (w w' : World) (n b1 o1 c1 b2 o2 c2 : Nat) : Prop where
  lo1 : w.heap.size ≤ b1
  hi1 : b1 < w'.heap.size
  lo2 : w.heap.size ≤ b2
  hi2 : b2 < w'.heap.size
  cap1 : n ≤ c1
  cap2 : n ≤ c2
  s : ∀ i, i < n → w'.cell? ⟨b1, o1 + i, none⟩ = some (.string ⟨#[]⟩)
  u : ∀ i, i < n → w'.cell? ⟨b2, o2 + i, none⟩ = some (.int .u64 0)
  fs : ∀ i, i < n → w'.frozen? ⟨b1, o1 + i, none⟩ = false
  fu : ∀ i, i < n → w'.frozen? ⟨b2, o2 + i, none⟩ = false
  apart : b1 = b2 → o1 + n ≤ o2
  below : Below w.heap.size w w'

theorem nl_struct (w : World) (T : TypeId) (n M : Nat) (hn : n ≤ M) :
    NL w (w.alloc (.cells (List.replicate M (Value.string ⟨#[]⟩) ++ List.replicate M (Value.int .u64 0)).toArray T)).drew n w.heap.size 0 M w.heap.size M M where
  lo1 := Nat.le_refl _
  hi1 := by show _ < (w.heap.push _).size; simp
  lo2 := Nat.le_refl _
  hi2 := by show _ < (w.heap.push _).size; simp
  cap1 := hn
  cap2 := hn
  s := fun i hi => by
    rw [World.cell?_drew, World.cell?_alloc_at]
    · have : i < M := by omega
      simp [List.getElem?_append, this]
    · rfl
  u := fun i hi => by
    rw [World.cell?_drew, World.cell?_alloc_at]
    · have : i < M := by omega
      simp [this]
    · rfl
  fs := fun i hi => by
    show (w.alloc _).frozen? _ = false
    rw [frozen?_alloc_cells]
    simp [World.frozen?]
  fu := fun i hi => by
    show (w.alloc _).frozen? _ = false
    rw [frozen?_alloc_cells]
    simp [World.frozen?]
  apart := fun _ => by omega
  below := ((Below.refl _ _).alloc (Nat.le_refl _) _).drew

set_option maxRecDepth 100000 in
set_option maxHeartbeats 400000 in
theorem newl2 (w : World) :
    Calls Try.prog 26 #[.int .i64 2] w fun e w' => ∃ b1 o1 c1 b2 o2 c2, e = .returned (.tuple #[.slice (some ⟨b1, o1, none⟩) 2 c1, .slice (some ⟨b2, o2, none⟩) 2 c2]) ∧ NL w w' 2 b1 o1 c1 b2 o2 c2 := by
  go_enter Try.func26, Try.ntmps26
  go_wp2
  go_region
  all_goals
    go_wp2
    go_ret2
    exact ⟨w.heap.size, 0, 2, w.heap.size, 2, 2, rfl, nl_struct w 54 2 2 (by omega)⟩

set_option maxRecDepth 100000 in
set_option maxHeartbeats 400000 in
theorem newl3 (w : World) :
    Calls Try.prog 26 #[.int .i64 3] w fun e w' => ∃ b1 o1 c1 b2 o2 c2, e = .returned (.tuple #[.slice (some ⟨b1, o1, none⟩) 3 c1, .slice (some ⟨b2, o2, none⟩) 3 c2]) ∧ NL w w' 3 b1 o1 c1 b2 o2 c2 := by
  go_enter Try.func26, Try.ntmps26
  go_wp2
  go_region
  all_goals
    go_wp2
    go_ret2
    exact ⟨w.heap.size, 0, 3, w.heap.size, 3, 3, rfl, nl_struct w 59 3 3 (by omega)⟩

set_option maxRecDepth 100000 in
set_option maxHeartbeats 400000 in
theorem newl4 (w : World) :
    Calls Try.prog 26 #[.int .i64 4] w fun e w' => ∃ b1 o1 c1 b2 o2 c2, e = .returned (.tuple #[.slice (some ⟨b1, o1, none⟩) 4 c1, .slice (some ⟨b2, o2, none⟩) 4 c2]) ∧ NL w w' 4 b1 o1 c1 b2 o2 c2 := by
  go_enter Try.func26, Try.ntmps26
  go_wp2
  go_region
  all_goals
    go_wp2
    go_ret2
    exact ⟨w.heap.size, 0, 4, w.heap.size, 4, 4, rfl, nl_struct w 64 4 4 (by omega)⟩

set_option maxRecDepth 100000 in
set_option maxHeartbeats 400000 in
theorem newl5 (w : World) :
    Calls Try.prog 26 #[.int .i64 5] w fun e w' => ∃ b1 o1 c1 b2 o2 c2, e = .returned (.tuple #[.slice (some ⟨b1, o1, none⟩) 5 c1, .slice (some ⟨b2, o2, none⟩) 5 c2]) ∧ NL w w' 5 b1 o1 c1 b2 o2 c2 := by
  go_enter Try.func26, Try.ntmps26
  go_wp2
  go_region
  all_goals
    go_wp2
    go_ret2
    exact ⟨w.heap.size, 0, 5, w.heap.size, 5, 5, rfl, nl_struct w 69 5 5 (by omega)⟩

set_option maxRecDepth 100000 in
set_option maxHeartbeats 400000 in
theorem newl6 (w : World) :
    Calls Try.prog 26 #[.int .i64 6] w fun e w' => ∃ b1 o1 c1 b2 o2 c2, e = .returned (.tuple #[.slice (some ⟨b1, o1, none⟩) 6 c1, .slice (some ⟨b2, o2, none⟩) 6 c2]) ∧ NL w w' 6 b1 o1 c1 b2 o2 c2 := by
  go_enter Try.func26, Try.ntmps26
  go_wp2
  go_region
  all_goals
    go_wp2
    go_ret2
    exact ⟨w.heap.size, 0, 6, w.heap.size, 6, 6, rfl, nl_struct w 74 6 6 (by omega)⟩

set_option maxRecDepth 100000 in
set_option maxHeartbeats 400000 in
theorem newl7 (w : World) :
    Calls Try.prog 26 #[.int .i64 7] w fun e w' => ∃ b1 o1 c1 b2 o2 c2, e = .returned (.tuple #[.slice (some ⟨b1, o1, none⟩) 7 c1, .slice (some ⟨b2, o2, none⟩) 7 c2]) ∧ NL w w' 7 b1 o1 c1 b2 o2 c2 := by
  go_enter Try.func26, Try.ntmps26
  go_wp2
  go_region
  all_goals
    go_wp2
    go_ret2
    exact ⟨w.heap.size, 0, 7, w.heap.size, 7, 7, rfl, nl_struct w 79 7 7 (by omega)⟩

set_option maxRecDepth 100000 in
set_option maxHeartbeats 400000 in
theorem newl8 (w : World) :
    Calls Try.prog 26 #[.int .i64 8] w fun e w' => ∃ b1 o1 c1 b2 o2 c2, e = .returned (.tuple #[.slice (some ⟨b1, o1, none⟩) 8 c1, .slice (some ⟨b2, o2, none⟩) 8 c2]) ∧ NL w w' 8 b1 o1 c1 b2 o2 c2 := by
  go_enter Try.func26, Try.ntmps26
  go_wp2
  go_region
  all_goals
    go_wp2
    go_ret2
    exact ⟨w.heap.size, 0, 8, w.heap.size, 8, 8, rfl, nl_struct w 84 8 8 (by omega)⟩

set_option maxRecDepth 100000 in
set_option maxHeartbeats 400000 in
theorem newl9 (w : World) :
    Calls Try.prog 26 #[.int .i64 9] w fun e w' => ∃ b1 o1 c1 b2 o2 c2, e = .returned (.tuple #[.slice (some ⟨b1, o1, none⟩) 9 c1, .slice (some ⟨b2, o2, none⟩) 9 c2]) ∧ NL w w' 9 b1 o1 c1 b2 o2 c2 := by
  go_enter Try.func26, Try.ntmps26
  go_wp2
  go_region
  all_goals
    go_wp2
    go_ret2
    exact ⟨w.heap.size, 0, 9, w.heap.size, 9, 9, rfl, nl_struct w 89 9 9 (by omega)⟩

set_option maxRecDepth 100000 in
set_option maxHeartbeats 400000 in
theorem newl10 (w : World) :
    Calls Try.prog 26 #[.int .i64 10] w fun e w' => ∃ b1 o1 c1 b2 o2 c2, e = .returned (.tuple #[.slice (some ⟨b1, o1, none⟩) 10 c1, .slice (some ⟨b2, o2, none⟩) 10 c2]) ∧ NL w w' 10 b1 o1 c1 b2 o2 c2 := by
  go_enter Try.func26, Try.ntmps26
  go_wp2
  go_region
  all_goals
    go_wp2
    go_ret2
    exact ⟨w.heap.size, 0, 10, w.heap.size, 10, 10, rfl, nl_struct w 94 10 10 (by omega)⟩

set_option maxRecDepth 100000 in
set_option maxHeartbeats 400000 in
theorem newl11 (w : World) :
    Calls Try.prog 26 #[.int .i64 11] w fun e w' => ∃ b1 o1 c1 b2 o2 c2, e = .returned (.tuple #[.slice (some ⟨b1, o1, none⟩) 11 c1, .slice (some ⟨b2, o2, none⟩) 11 c2]) ∧ NL w w' 11 b1 o1 c1 b2 o2 c2 := by
  go_enter Try.func26, Try.ntmps26
  go_wp2
  go_region
  all_goals
    go_wp2
    go_ret2
    exact ⟨w.heap.size, 0, 12, w.heap.size, 12, 12, rfl, nl_struct w 99 11 12 (by omega)⟩

set_option maxRecDepth 100000 in
set_option maxHeartbeats 400000 in
theorem newl12 (w : World) :
    Calls Try.prog 26 #[.int .i64 12] w fun e w' => ∃ b1 o1 c1 b2 o2 c2, e = .returned (.tuple #[.slice (some ⟨b1, o1, none⟩) 12 c1, .slice (some ⟨b2, o2, none⟩) 12 c2]) ∧ NL w w' 12 b1 o1 c1 b2 o2 c2 := by
  go_enter Try.func26, Try.ntmps26
  go_wp2
  go_region
  all_goals
    go_wp2
    go_ret2
    exact ⟨w.heap.size, 0, 12, w.heap.size, 12, 12, rfl, nl_struct w 99 12 12 (by omega)⟩

set_option maxRecDepth 100000 in
set_option maxHeartbeats 400000 in
theorem newl13 (w : World) :
    Calls Try.prog 26 #[.int .i64 13] w fun e w' => ∃ b1 o1 c1 b2 o2 c2, e = .returned (.tuple #[.slice (some ⟨b1, o1, none⟩) 13 c1, .slice (some ⟨b2, o2, none⟩) 13 c2]) ∧ NL w w' 13 b1 o1 c1 b2 o2 c2 := by
  go_enter Try.func26, Try.ntmps26
  go_wp2
  go_region
  all_goals
    go_wp2
    go_ret2
    exact ⟨w.heap.size, 0, 13, w.heap.size, 13, 13, rfl, nl_struct w 104 13 13 (by omega)⟩

set_option maxRecDepth 100000 in
set_option maxHeartbeats 400000 in
theorem newl14 (w : World) :
    Calls Try.prog 26 #[.int .i64 14] w fun e w' => ∃ b1 o1 c1 b2 o2 c2, e = .returned (.tuple #[.slice (some ⟨b1, o1, none⟩) 14 c1, .slice (some ⟨b2, o2, none⟩) 14 c2]) ∧ NL w w' 14 b1 o1 c1 b2 o2 c2 := by
  go_enter Try.func26, Try.ntmps26
  go_wp2
  go_region
  all_goals
    go_wp2
    go_ret2
    exact ⟨w.heap.size, 0, 14, w.heap.size, 14, 14, rfl, nl_struct w 109 14 14 (by omega)⟩

set_option maxRecDepth 100000 in
set_option maxHeartbeats 400000 in
theorem newl15 (w : World) :
    Calls Try.prog 26 #[.int .i64 15] w fun e w' => ∃ b1 o1 c1 b2 o2 c2, e = .returned (.tuple #[.slice (some ⟨b1, o1, none⟩) 15 c1, .slice (some ⟨b2, o2, none⟩) 15 c2]) ∧ NL w w' 15 b1 o1 c1 b2 o2 c2 := by
  go_enter Try.func26, Try.ntmps26
  go_wp2
  go_region
  all_goals
    go_wp2
    go_ret2
    exact ⟨w.heap.size, 0, 16, w.heap.size, 16, 16, rfl, nl_struct w 114 15 16 (by omega)⟩

set_option maxRecDepth 100000 in
set_option maxHeartbeats 400000 in
theorem newl16 (w : World) :
    Calls Try.prog 26 #[.int .i64 16] w fun e w' => ∃ b1 o1 c1 b2 o2 c2, e = .returned (.tuple #[.slice (some ⟨b1, o1, none⟩) 16 c1, .slice (some ⟨b2, o2, none⟩) 16 c2]) ∧ NL w w' 16 b1 o1 c1 b2 o2 c2 := by
  go_enter Try.func26, Try.ntmps26
  go_wp2
  go_region
  all_goals
    go_wp2
    go_ret2
    exact ⟨w.heap.size, 0, 16, w.heap.size, 16, 16, rfl, nl_struct w 114 16 16 (by omega)⟩

theorem nl_two1 (w : World) (n : Nat) : NL w (((w.alloc (.cells (madeCells #[Value.string ⟨#[]⟩] n) 9)).alloc (.cells (madeCells #[Value.int .u64 0] n) 26)).drew) n w.heap.size 0 n (w.heap.size + 1) 0 n := by
  have r1 := (World.rowIs_made w (.string ⟨#[]⟩) n 9).alloc (.cells (madeCells #[Value.int .u64 0] n) 26)
  have r2 := World.rowIs_made (w.alloc (.cells (madeCells #[Value.string ⟨#[]⟩] n) 9)) (.int .u64 0) n 26
  rw [World.size_alloc] at r2
  refine ⟨Nat.le_refl _, r1.lt, by omega, r2.lt, Nat.le_refl _, Nat.le_refl _, fun i hi => ?_, fun i hi => ?_, fun i hi => ?_, fun i hi => ?_, by omega, (((Below.refl _ _).alloc (Nat.le_refl _) _).alloc (by simp) _).drew⟩
  · rw [Nat.zero_add]; exact r1.cell hi
  · rw [Nat.zero_add]; exact r2.cell hi
  · exact r1.frozen _
  · exact r2.frozen _

theorem nl_two2 (w : World) (n : Nat) : NL w (((w.alloc (.cells (madeCells #[Value.int .u64 0] n) 26)).alloc (.cells (madeCells #[Value.string ⟨#[]⟩] n) 9)).drew) n (w.heap.size + 1) 0 n w.heap.size 0 n := by
  have r1 := (World.rowIs_made w (.int .u64 0) n 26).alloc (.cells (madeCells #[Value.string ⟨#[]⟩] n) 9)
  have r2 := World.rowIs_made (w.alloc (.cells (madeCells #[Value.int .u64 0] n) 26)) (.string ⟨#[]⟩) n 9
  rw [World.size_alloc] at r2
  refine ⟨by omega, r2.lt, Nat.le_refl _, r1.lt, Nat.le_refl _, Nat.le_refl _, fun i hi => ?_, fun i hi => ?_, fun i hi => ?_, fun i hi => ?_, by omega, (((Below.refl _ _).alloc (Nat.le_refl _) _).alloc (by simp) _).drew⟩
  · rw [Nat.zero_add]; exact r2.cell hi
  · rw [Nat.zero_add]; exact r1.cell hi
  · exact r2.frozen _
  · exact r1.frozen _

theorem Try.info9 : (Try.prog.info? 9).map (fun i => (i.zero, i.size, i.bytes)) = some (some (.string ⟨#[]⟩), 1, 16) := by kernel_rfl
theorem Try.info26 : (Try.prog.info? 26).map (fun i => (i.zero, i.size, i.bytes)) = some (some (.int .u64 0), 1, 8) := by kernel_rfl

set_option maxRecDepth 100000 in
set_option maxHeartbeats 400000 in
theorem newlx (n : Nat) (hn : n < 2 ∨ 16 < n) (hn2 : n ≤ 1048576) (w : World) :
    Calls Try.prog 26 #[.int .i64 n] w fun e w' => ∃ b1 o1 c1 b2 o2 c2, e = .returned (.tuple #[.slice (some ⟨b1, o1, none⟩) n c1, .slice (some ⟨b2, o2, none⟩) n c2]) ∧ NL w w' n b1 o1 c1 b2 o2 c2 := by
  have hm1 := run_make_row' (P := Try.prog) 22 9 (.string ⟨#[]⟩) 16 Try.underlying22 Try.info9 rfl .i64 .i64 n (by omega) (by omega)
  have hm2 := run_make_row' (P := Try.prog) 23 26 (.int .u64 0) 8 Try.underlying23 Try.info26 rfl .i64 .i64 n (by omega) (by omega)
  go_enter Try.func26, Try.ntmps26
  go_wp2
  go_region
  · go_wp2
    go_ret2
    exact ⟨w.heap.size, 0, n, w.heap.size + 1, 0, n, rfl, nl_two1 w n⟩
  · go_wp2
    go_ret2
    exact ⟨w.heap.size + 1, 0, n, w.heap.size, 0, n, rfl, nl_two2 w n⟩

theorem newl_any (n : Nat) (hn2 : n ≤ 1048576) (w : World) :
    Calls Try.prog 26 #[.int .i64 n] w fun e w' => ∃ b1 o1 c1 b2 o2 c2, e = .returned (.tuple #[.slice (some ⟨b1, o1, none⟩) n c1, .slice (some ⟨b2, o2, none⟩) n c2]) ∧ NL w w' n b1 o1 c1 b2 o2 c2 := by
  by_cases h : n < 2 ∨ 16 < n
  · exact newlx n h hn2 w
  · match n, h with
    | 0, h => omega
    | 1, h => omega
    | 2, _ => exact newl2 w
    | 3, _ => exact newl3 w
    | 4, _ => exact newl4 w
    | 5, _ => exact newl5 w
    | 6, _ => exact newl6 w
    | 7, _ => exact newl7 w
    | 8, _ => exact newl8 w
    | 9, _ => exact newl9 w
    | 10, _ => exact newl10 w
    | 11, _ => exact newl11 w
    | 12, _ => exact newl12 w
    | 13, _ => exact newl13 w
    | 14, _ => exact newl14 w
    | 15, _ => exact newl15 w
    | 16, _ => exact newl16 w
    | n + 17, h => omega

set_option maxHeartbeats 400000 in
theorem znewl_any (n : Nat) (hn2 : n ≤ 1048576) (w : World) :
    Calls Try.prog 8 #[.int .i64 n] w fun e w' => ∃ b1 o1 c1 b2 o2 c2, e = .returned (.tuple #[.slice (some ⟨b1, o1, none⟩) n c1, .slice (some ⟨b2, o2, none⟩) n c2]) ∧ NL w w' n b1 o1 c1 b2 o2 c2 := by
  go_enter Try.func8, Try.ntmps8
  go_wp2_with fail
  refine (newl_any n hn2 _).mono ?_
  rintro e w' ⟨b1, o1, c1, b2, o2, c2, rfl, h⟩
  go_wp2
  go_ret2
  exact ⟨b1, o1, c1, b2, o2, c2, rfl, h⟩
end Go.Proofs.Qxb6601531a
