import Derived.Test.Qxb6601531aUni
namespace Go.Proofs.Qxb6601531a
open Go.RowKit

theorem want_both {f g : Nat → ByteArray} {fc gc : Nat → Int} {n m i j : Nat} {x : ByteArray} (h1 : fnd f x n = i) (h2 : fnd g x m = j) : want f g fc gc n m x = if fc i < gc j then gc j else fc i := by
  have e1 : (0 : Int) ≤ i := by omega
  have e2 : (0 : Int) ≤ j := by omega
  rw [want, h1, h2]
  simp [e1, e2]
theorem want_left {f g : Nat → ByteArray} {fc gc : Nat → Int} {n m i : Nat} {x : ByteArray} (h1 : fnd f x n = i) (h2 : fnd g x m = -1) : want f g fc gc n m x = fc i := by
  have e1 : (0 : Int) ≤ i := by omega
  rw [want, h1, h2]
  simp [e1]
theorem want_right {f g : Nat → ByteArray} {fc gc : Nat → Int} {n m j : Nat} {x : ByteArray} (h1 : fnd f x n = -1) (h2 : fnd g x m = j) : want f g fc gc n m x = if 0 < gc j then gc j else 0 := by
  have e2 : (0 : Int) ≤ j := by omega
  rw [want, h1, h2]
  simp [e2]

set_option maxRecDepth 100000 in
set_option maxHeartbeats 8000000 in
theorem isMaxUnion (bf bfc bg bgc n m br orr cr bc oc cc k : Nat) (hn : n ≤ 1048576) (hm : m ≤ 1048576) (hk1 : k ≤ 1048576) (f g : Nat → ByteArray) (fc gc : Nat → Int) (r : Nat → ByteArray) (rc : Nat → Int) (w : World) (sf : Hid (Sorted f n)) (sg : Hid (Sorted g m))
    (hf : ∀ i, i < n → w.cell? ⟨bf, i, none⟩ = some (.string (f i))) (hfc : ∀ i, i < n → w.cell? ⟨bfc, i, none⟩ = some (.int .u64 (fc i)))
    (hg : ∀ i, i < m → w.cell? ⟨bg, i, none⟩ = some (.string (g i))) (hgc : ∀ i, i < m → w.cell? ⟨bgc, i, none⟩ = some (.int .u64 (gc i)))
    (hr : ∀ i, i < k → w.cell? ⟨br, orr + i, none⟩ = some (.string (r i))) (hrc : ∀ i, i < k → w.cell? ⟨bc, oc + i, none⟩ = some (.int .u64 (rc i))) (H : Hid (MU f g fc gc n m r rc k)) :
    Calls Try.prog 15 #[.slice (some ⟨bf, 0, none⟩) n n, .slice (some ⟨bfc, 0, none⟩) n n, .slice (some ⟨bg, 0, none⟩) m m, .slice (some ⟨bgc, 0, none⟩) m m, .slice (some ⟨br, orr, none⟩) k cr, .slice (some ⟨bc, oc, none⟩) k cc] w
      fun e w' => e = .returned (.bool true) ∧ ∃ t, w' = w.drewN t := by
  have FF := fun x t => find_any bf 0 n n hn f x (w.drewN t) sf (fun i hi => by rw [Nat.zero_add]; exact hf i hi)
  have FG := fun x t => find_any bg 0 m m hm g x (w.drewN t) sg (fun i hi => by rw [Nat.zero_add]; exact hg i hi)
  go_enter Try.func15, Try.ntmps15
  go_wp2_with fail
  refine (sortedYes br orr k cr hk1 r _ hr H.out.asc).mono ?_
  rintro e w' ⟨rfl, t0, rfl⟩
  go_wp2
  go_loop [13, 14] (fun c x => ∃ i : Nat, i ≤ n ∧ c = .int .i64 (com f g m i) ∧ x = .int .i64 i) (fun _ x => n - (intOf x).toNat)
  case atStart => exact ⟨0, Nat.zero_le _, rfl, rfl⟩
  case round =>
    obtain ⟨i, hi, rfl, rfl⟩ := hrel
    have hcl : Hid (com f g m i ≤ i) := com_le i
    by_cases hlt : i < n
    · have g1 := hf i hlt
      have hci : com f g m i ≤ 1048576 := by have := hcl.out; omega
      have i1 : (i : Int) < n := by omega
      go_wp2_with fail
      refine (FG _ _).mono ?_
      rintro e w' ⟨rfl, rfl⟩
      by_cases hx : 0 ≤ fnd g (f i) m
      · go_wp2
        go_round
        case rel => exact ⟨i + 1, by omega, by rw [com, if_pos hx]; go_num, by go_num⟩
        case measure => simp [intOf]; omega
      · have hx' : decide (0 ≤ fnd g (f i) m) = false := by simp; omega
        go_wp2
        go_round
        case rel => exact ⟨i + 1, by omega, by rw [com, if_neg (by omega)]; rfl, by go_num⟩
        case measure => simp [intOf]; omega
    · have hin : i = n := by omega
      subst hin
      have hlen : Hid (k + com f g m i = i + m) := H.out.len
      have hci : com f g m i ≤ 1048576 := by have := hcl.out; omega
      have hq2 : ((k : Int) != (i : Int) + m - (com f g m i : Nat)) = false := by have := hlen.out; simp; omega
      clear FG hlen hcl
      have FG := fun x t => find_any bg 0 m m hm g x (w.drewN t) sg (fun i hi => by rw [Nat.zero_add]; exact hg i hi)
      go_wp2
      clear hq2
      go_loop [15] (fun x => ∃ z : Nat, z ≤ k ∧ x = .int .i64 z) (fun x => k - (intOf x).toNat)
      case atStart => exact ⟨0, Nat.zero_le _, rfl⟩
      case round =>
        obtain ⟨z, hz, rfl⟩ := hrel
        by_cases hlt : z < k
        · have hh : Hid (0 ≤ fnd f (r z) i ∨ 0 ≤ fnd g (r z) m) := H.out.has z hlt
          have hw : Hid (rc z = want f g fc gc i m (r z)) := H.out.eq z hlt
          have g1 := hr z hlt
          have g2 := hrc z hlt
          have i1 : (z : Int) < k := by omega
          go_wp2_with fail
          refine (FF _ _).mono ?_
          rintro e w' ⟨rfl, rfl⟩
          go_wp2_with fail
          refine (FG _ _).mono ?_
          rintro e w' ⟨rfl, rfl⟩
          rcases fnd_cases f (r z) i with ⟨a1, a3⟩ | ⟨x, a1, a2, a3⟩
          · rcases fnd_cases g (r z) m with ⟨b1, b3⟩ | ⟨y, b1, b2, b3⟩
            · have := hh.out
              rw [a1, b1] at this
              omega
            · rw [hw.out, want_right a1 b2] at g2
              rw [a1, b2]
              have g3 := hgc y b1
              have i2 : (y : Int) < m := by omega
              clear hh hw FF FG b2 b3 a1 a3 hrc hgc
              by_cases hp : 0 < gc y
              · rw [if_pos hp] at g2
                go_wp2
                exact ⟨⟨z + 1, by omega, by go_num⟩, by simp [intOf]; omega⟩
              · rw [if_neg hp] at g2
                have hp' : decide (0 < gc y) = false := by simp; omega
                go_wp2
                exact ⟨⟨z + 1, by omega, by go_num⟩, by simp [intOf]; omega⟩
          · have g4 := hfc x a1
            have i3 : (x : Int) < i := by omega
            rcases fnd_cases g (r z) m with ⟨b1, b3⟩ | ⟨y, b1, b2, b3⟩
            · rw [hw.out, want_left a2 b1] at g2
              rw [a2, b1]
              clear hh hw FF FG a2 a3 b1 b3 hrc hgc hfc
              go_wp2
              exact ⟨⟨z + 1, by omega, by go_num⟩, by simp [intOf]; omega⟩
            · rw [hw.out, want_both a2 b2] at g2
              rw [a2, b2]
              have g3 := hgc y b1
              have i2 : (y : Int) < m := by omega
              clear hh hw FF FG a2 a3 b2 b3 hrc hgc hfc
              by_cases hp : fc x < gc y
              · rw [if_pos hp] at g2
                go_wp2
                exact ⟨⟨z + 1, by omega, by go_num⟩, by simp [intOf]; omega⟩
              · rw [if_neg hp] at g2
                have hp' : decide (fc x < gc y) = false := by simp; omega
                go_wp2
                exact ⟨⟨z + 1, by omega, by go_num⟩, by simp [intOf]; omega⟩
        · go_wp2
          go_ret
          exact ⟨rfl, t0, rfl⟩
end Go.Proofs.Qxb6601531a
