import Derived.Test.Qxb6601531aNewL
namespace Go.Proofs.Qxb6601531a
open Go.RowKit

theorem cell_set_other {w : World} {b o b' o' : Nat} {v : Value} (h : b = b' → o ≠ o') : (w.setCell ⟨b, o, none⟩ v).cell? ⟨b', o', none⟩ = w.cell? ⟨b', o', none⟩ :=
  World.cell?_setCell_other _ _ _ _ (by intro e; injection e with e1 e2; exact h e1 e2)

/-- What the law's second loop keeps. -/
structure Q2 (w wr : World) (N b1 o1 b2 o2 b3 o3 b4 o4 : Nat) : Prop where
  c1 : ∀ i, i < N → ∃ s, wr.cell? ⟨b1, o1 + i, none⟩ = some (.string s)
  c2 : ∀ i, i < N → ∃ x, wr.cell? ⟨b2, o2 + i, none⟩ = some (.int .u64 x)
  f1 : ∀ i, i < N → wr.frozen? ⟨b1, o1 + i, none⟩ = false
  f2 : ∀ i, i < N → wr.frozen? ⟨b2, o2 + i, none⟩ = false
  c3 : ∀ i, i < N → wr.cell? ⟨b3, o3 + i, none⟩ = some (.string ⟨#[]⟩)
  c4 : ∀ i, i < N → wr.cell? ⟨b4, o4 + i, none⟩ = some (.int .u64 0)
  bel : Below w.heap.size w wr

theorem q2_start {w w1 w2 : World} {N b1 o1 c1 b2 o2 c2 b3 o3 c3 b4 o4 c4 : Nat} (h1 : NL w w1 N b1 o1 c1 b2 o2 c2) (h2 : NL w1 w2 N b3 o3 c3 b4 o4 c4) : Q2 w w2 N b1 o1 b2 o2 b3 o3 b4 o4 where
  c1 := fun i hi => ⟨_, (h2.below.cell (p := ⟨b1, o1 + i, none⟩) h1.hi1).trans (h1.s i hi)⟩
  c2 := fun i hi => ⟨_, (h2.below.cell (p := ⟨b2, o2 + i, none⟩) h1.hi2).trans (h1.u i hi)⟩
  f1 := fun i hi => (h2.below.frozen (p := ⟨b1, o1 + i, none⟩) h1.hi1).trans (h1.fs i hi)
  f2 := fun i hi => (h2.below.frozen (p := ⟨b2, o2 + i, none⟩) h1.hi2).trans (h1.fu i hi)
  c3 := h2.s
  c4 := h2.u
  bel := h1.below.trans (h2.below.mono h1.below.size)

theorem q2_step {w wr : World} {N b1 o1 b2 o2 b3 o3 b4 o4 k : Nat} (h : Q2 w wr N b1 o1 b2 o2 b3 o3 b4 o4) (hk : k < N) (s x : Value) (hs : ∃ t, s = .string t) (hx : ∃ n, x = .int .u64 n)
    (hap : b1 = b2 → o1 + N ≤ o2) (l1 : w.heap.size ≤ b1) (l2 : w.heap.size ≤ b2) (n13 : b1 ≠ b3) (n14 : b1 ≠ b4) (n23 : b2 ≠ b3) (n24 : b2 ≠ b4) :
    Q2 w ((wr.setCell ⟨b1, o1 + k, none⟩ s).setCell ⟨b2, o2 + k, none⟩ x) N b1 o1 b2 o2 b3 o3 b4 o4 where
  c1 := fun i hi => by
    rw [cell_set_other (by intro e; have := hap e.symm; omega)]
    by_cases e : i = k
    · subst e
      obtain ⟨t, rfl⟩ := hs
      obtain ⟨t', ht'⟩ := h.c1 i hi
      exact ⟨t, World.cell?_setCell_same _ _ _ ht'⟩
    · rw [cell_set_other (by omega)]; exact h.c1 i hi
  c2 := fun i hi => by
    by_cases e : i = k
    · subst e
      obtain ⟨t, rfl⟩ := hx
      obtain ⟨t', ht'⟩ := h.c2 i hi
      exact ⟨t, World.cell?_setCell_same _ _ _ ((cell_set_other (by intro e; have := hap e; omega)).trans ht')⟩
    · rw [cell_set_other (by omega), cell_set_other (by intro e; have := hap e; omega)]; exact h.c2 i hi
  f1 := fun i hi => by rw [World.frozen?_setCell, World.frozen?_setCell]; exact h.f1 i hi
  f2 := fun i hi => by rw [World.frozen?_setCell, World.frozen?_setCell]; exact h.f2 i hi
  c3 := fun i hi => by rw [cell_set_other (by omega), cell_set_other (by omega)]; exact h.c3 i hi
  c4 := fun i hi => by rw [cell_set_other (by omega), cell_set_other (by omega)]; exact h.c4 i hi
  bel := (h.bel.setCell (p := ⟨b1, o1 + k, none⟩) l1 s).setCell (p := ⟨b2, o2 + k, none⟩) l2 x

theorem law_out (n : Int) (h : n < 0 ∨ 65536 < n) (w : World) :
    Calls Try.prog 3 #[.int .i64 n] w fun e w' => e = .returned (.bool true) ∧ Below w.heap.size w w' := by
  rcases h with h | h
  · go_enter Try.func3, Try.ntmps3
    go_wp2
    go_ret
    exact ⟨rfl, Below.refl _ _⟩
  · have h' : ¬ n < 0 := by omega
    go_enter Try.func3, Try.ntmps3
    go_wp2
    go_ret
    exact ⟨rfl, Below.refl _ _⟩

set_option maxHeartbeats 1000000 in
theorem law_in (N : Nat) (hN : N ≤ 65536) (w : World) :
    Calls Try.prog 3 #[.int .i64 N] w fun e w' => e = .returned (.bool true) ∧ Below w.heap.size w w' := by
  go_enter Try.func3, Try.ntmps3
  go_wp2_with fail
  refine (znewl_any N (by omega) _).mono ?_
  rintro e w1 ⟨b1, o1, c1, b2, o2, c2, rfl, h1⟩
  go_wp2_with fail
  refine (znewl_any N (by omega) _).mono ?_
  rintro e w2 ⟨b3, o3, c3, b4, o4, c4, rfl, h2⟩
  have hq := q2_start h1 h2
  have hap := h1.apart
  have l1 := h1.lo1
  have l2 := h1.lo2
  have n13 : b1 ≠ b3 := by have := h1.hi1; have := h2.lo1; omega
  have n14 : b1 ≠ b4 := by have := h1.hi1; have := h2.lo2; omega
  have n23 : b2 ≠ b3 := by have := h1.hi2; have := h2.lo1; omega
  have n24 : b2 ≠ b4 := by have := h1.hi2; have := h2.lo2; omega
  have s1 : ∀ i, i < N → w2.cell? ⟨b1, o1 + i, none⟩ = some (.string ⟨#[]⟩) := fun i hi => (h2.below.cell (p := ⟨b1, o1 + i, none⟩) h1.hi1).trans (h1.s i hi)
  have u1 : ∀ i, i < N → w2.cell? ⟨b2, o2 + i, none⟩ = some (.int .u64 0) := fun i hi => (h2.below.cell (p := ⟨b2, o2 + i, none⟩) h1.hi2).trans (h1.u i hi)
  clear h1 h2
  go_wp2
  go_loop [7] (fun z => ∃ k : Nat, k ≤ N ∧ z = .int .i64 k) (fun z => N - (intOf z).toNat)
  case atStart => exact ⟨0, Nat.zero_le _, rfl⟩
  case round =>
    obtain ⟨k, hk, rfl⟩ := hrel
    by_cases hlt : k < N
    · have g1 := s1 k hlt
      have g2 := u1 k hlt
      have g3 := hq.c3 k hlt
      have g4 := hq.c4 k hlt
      clear s1 u1
      go_wp2
      go_round
      case rel => exact ⟨k + 1, by omega, by go_num⟩
      case measure => simp [intOf]; omega
    · clear s1 u1
      go_wp2
      go_loopw [8] (fun z wr => ∃ k : Nat, k ≤ N ∧ z = .int .i64 k ∧ Q2 w wr N b1 o1 b2 o2 b3 o3 b4 o4) (fun z _ => N - (intOf z).toNat)
      case atStart => exact ⟨0, Nat.zero_le _, rfl, hq⟩
      case round =>
        obtain ⟨j, hj, rfl, hr⟩ := hrel
        by_cases hlt : j < N
        · obtain ⟨s, g1⟩ := hr.c1 j hlt
          obtain ⟨x, g2⟩ := hr.c2 j hlt
          have f1 := hr.f1 j hlt
          have f2 := hr.f2 j hlt
          have g2' : (wr.setCell ⟨b1, o1 + j, none⟩ (.string ⟨#[120]⟩)).cell? ⟨b2, o2 + j, none⟩ = some (.int .u64 x) := (cell_set_other (by intro e; have := hap e; omega)).trans g2
          have hr' := q2_step hr hlt (.string ⟨#[120]⟩) (.int .u64 1) ⟨_, rfl⟩ ⟨_, rfl⟩ hap l1 l2 n13 n14 n23 n24
          go_wp2
          go_roundw
          case rel => exact ⟨j + 1, by omega, by go_num, hr'⟩
          case measure => simp [intOf]; omega
        · go_wp2
          go_loop [9] (fun z => ∃ k : Nat, k ≤ N ∧ z = .int .i64 k) (fun z => N - (intOf z).toNat)
          case atStart => exact ⟨0, Nat.zero_le _, rfl⟩
          case round =>
            obtain ⟨m, hm, rfl⟩ := hrel
            by_cases hlt : m < N
            · have g3 := hr.c3 m hlt
              have g4 := hr.c4 m hlt
              go_wp2
              go_round
              case rel => exact ⟨m + 1, by omega, by go_num⟩
              case measure => simp [intOf]; omega
            · go_wp2
              go_ret
              exact ⟨rfl, hr.bel⟩
end Go.Proofs.Qxb6601531a
