import Derived.Test.Qxb6601531aLeaf
import Derived.Test.Qxb6601531aPlain
namespace Go.Proofs.Qxb6601531a
open Go.RowKit

/-- addIDBytes, addWordBytes: some number t', at least s where it is at most 1<<20. -/
def NumB (s : Nat) (e : Ending) : Prop := ∃ t' : Nat, e = .returned (.int .i64 t') ∧ t' ≤ 67108864 ∧ (t' ≤ 1048576 → s ≤ t')
theorem numB {s : Nat} (t' : Nat) {x : Int} (hx : x = t') (h1 : t' ≤ 67108864) (h2 : t' ≤ 1048576 → s ≤ t') : NumB s (.returned (.int .i64 x)) := ⟨t', by rw [hx], h1, h2⟩
/-- It returned a bool, and where that is true, p. -/
def FitB (p : Prop) (e : Ending) : Prop := ∃ b, e = .returned (.bool b) ∧ (b = true → p)
theorem fitF {p : Prop} : FitB p (.returned (.bool false)) := ⟨false, rfl, by intro h; cases h⟩
theorem fitB {p : Prop} (b : Bool) (h : b = true → p) : FitB p (.returned (.bool b)) := ⟨b, rfl, h⟩

set_option maxHeartbeats 1000000 in
theorem idBytes (t : Nat) (ht : t ≤ 67108864) (a : Option Addr) (n c : Nat) (f : Nat → ByteArray) (w : World) (h0 : SA w a n f) :
    Calls Try.prog 27 #[.int .i64 t, .slice a n c] w fun e w' => NumB (t + 16 * n) e ∧ w' = w := by
  by_cases hb : 1048576 < t
  · go_enter Try.func27, Try.ntmps27
    go_wp2
    go_ret
    exact ⟨numB 1048577 rfl (by omega) (by omega), rfl⟩
  by_cases hn : 1048576 < n
  · go_enter Try.func27, Try.ntmps27
    go_wp2
    go_ret
    exact ⟨numB 1048577 rfl (by omega) (by omega), rfl⟩
  go_enter Try.func27, Try.ntmps27
  go_wp2
  go_loop [0, 5] (fun z i => ∃ k s : Nat, k ≤ n ∧ t + 16 * n ≤ s ∧ s ≤ 33554432 ∧ i = .int .i64 k ∧ z = .int .i64 s) (fun _ i => n - (intOf i).toNat)
  case atStart => exact ⟨0, t + 16 * n, Nat.zero_le _, by omega, by omega, rfl, by go_num⟩
  case round =>
    obtain ⟨k, s, hk, h1, h2, rfl, rfl⟩ := hrel
    by_cases hlt : k < n
    · obtain ⟨b, o, ha, hc⟩ := h0 (by omega)
      subst ha
      have g1 := hc k hlt
      clear hc h0
      by_cases hs : 1048576 < s
      · go_wp2
        go_ret
        exact ⟨numB 1048577 rfl (by omega) (by omega), rfl⟩
      · go_wp2
        · go_ret
          exact ⟨numB 1048577 rfl (by omega) (by omega), rfl⟩
        · go_round
          case rel => exact ⟨k + 1, s + (f k).size, by omega, by omega, by omega, by go_num, by go_num⟩
          case measure => simp [intOf]; omega
    · clear h0
      go_wp2
      go_ret
      exact ⟨numB s rfl (by omega) (by omega), rfl⟩

set_option maxHeartbeats 1000000 in
theorem wordBytes (t n : Nat) (ht : t ≤ 67108864) (w : World) :
    Calls Try.prog 28 #[.int .i64 t, .int .i64 n] w fun e w' => NumB (t + 8 * n) e ∧ w' = w := by
  by_cases hb : 1048576 < t
  · go_enter Try.func28, Try.ntmps28
    go_wp2
    go_ret
    exact ⟨numB 1048577 rfl (by omega) (by omega), rfl⟩
  by_cases hn : 1048576 < n
  · go_enter Try.func28, Try.ntmps28
    go_wp2
    go_ret
    exact ⟨numB 1048577 rfl (by omega) (by omega), rfl⟩
  go_enter Try.func28, Try.ntmps28
  go_wp2
  go_ret
  exact ⟨numB (t + 8 * n) (by go_num) (by omega) (by omega), rfl⟩

set_option maxHeartbeats 1000000 in
theorem argsFit (a0 a1 a2 a3 : Option Addr) (n0 c0 n1 c1 n2 c2 n3 c3 m : Nat) (f g : Nat → ByteArray) (w : World) (h0 : SA w a0 n0 f) (h2 : SA w a2 n2 g) :
    Calls Try.prog 10 #[.slice a0 n0 c0, .slice a1 n1 c1, .slice a2 n2 c2, .slice a3 n3 c3, .int .i64 m] w fun e w' => FitB (16 * n0 + 16 * n2 + 8 * n1 + 8 * n3 + 8 * m ≤ 1048576) e ∧ w' = w := by
  go_enter Try.func10, Try.ntmps10
  go_wp2_with fail
  refine (idBytes 0 (by omega) a0 n0 c0 f _ h0).mono ?_
  rintro e w' ⟨⟨t1, rfl, b1, q1⟩, rfl⟩
  go_wp2_with fail
  refine (idBytes t1 (by omega) a2 n2 c2 g _ h2).mono ?_
  rintro e w' ⟨⟨t2, rfl, b2, q2⟩, rfl⟩
  go_wp2_with fail
  refine (wordBytes t2 n1 (by omega) _).mono ?_
  rintro e w' ⟨⟨t3, rfl, b3, q3⟩, rfl⟩
  go_wp2_with fail
  refine (wordBytes t3 n3 (by omega) _).mono ?_
  rintro e w' ⟨⟨t4, rfl, b4, q4⟩, rfl⟩
  go_wp2_with fail
  refine (wordBytes t4 m (by omega) _).mono ?_
  rintro e w' ⟨⟨t5, rfl, b5, q5⟩, rfl⟩
  go_wp2
  go_ret
  refine ⟨fitB _ fun h => ?_, rfl⟩
  have h5 : t5 ≤ 1048576 := by
    have := of_decide_eq_true h
    omega
  have := q5 h5
  have := q4 (by omega)
  have := q3 (by omega)
  have := q2 (by omega)
  have := q1 (by omega)
  omega

theorem of_not {b : Bool} (h : (!b) = false) : b = true := by simpa using h

set_option maxHeartbeats 1000000 in
theorem sortedStrict (a : Option Addr) (n c : Nat) (hn : n ≤ 1048576) (f : Nat → ByteArray) (w : World) (h0 : SA w a n f) :
    Calls Try.prog 31 #[.slice a n c] w fun e w' => FitB (Sorted f n) e ∧ ∃ m, w' = w.drewN m := by
  go_enter Try.func31, Try.ntmps31
  go_wp2
  go_loopw [3] (fun i wr => ∃ k : Nat, (k + 1 ≤ n ∨ k = 0) ∧ i = .int .i64 (k + 1) ∧ Sorted f (k + 1) ∧ ∃ m, wr = w.drewN m) (fun i _ => n + 1 - (intOf i).toNat)
  case atStart => exact ⟨0, by omega, rfl, by intro i hi; omega, 0, rfl⟩
  case round =>
    obtain ⟨k, hk, rfl, hs, m, rfl⟩ := hrel
    by_cases hlt : k + 1 < n
    · obtain ⟨b, o, ha, hc⟩ := h0 (by omega)
      subst ha
      have g1 := hc k (by omega)
      have g2 := hc (k + 1) hlt
      have i1 : (k : Int) < n := by omega
      have i2 : (k : Int) + 1 < n := by omega
      clear hc h0
      go_wp2
      go_quiet (fail)
      go_wp2
      · go_ret
        exact ⟨fitF, m + nq, by simp⟩
      · have hb : Op.bytesLess (f k).toList (f (k + 1)).toList = true := of_not (by assumption)
        go_roundw
        case rel =>
          refine ⟨k + 1, by omega, by go_num, fun i hi => ?_, m + nq, rfl⟩
          by_cases e : i = k
          · rw [e]; exact hb
          · exact hs i (by omega)
        case measure => simp [intOf]; omega
    · clear h0
      go_wp2
      go_ret
      exact ⟨fitB _ fun _ i hi => hs i (by omega), m, rfl⟩

set_option maxHeartbeats 1000000 in
theorem wellFormed (a0 a1 : Option Addr) (n0 c0 n1 c1 : Nat) (hn : n0 ≤ 1048576) (f : Nat → ByteArray) (w : World) (h0 : SA w a0 n0 f) :
    Calls Try.prog 29 #[.slice a0 n0 c0, .slice a1 n1 c1] w fun e w' => FitB (0 < n0 ∧ n0 = n1 ∧ Sorted f n0) e ∧ ∃ m, w' = w.drewN m := by
  by_cases hz : 0 < n0
  · by_cases he : n0 = n1
    · have H : Hid (n0 = n1) := he
      have he' : ((n0 : Int) == (n1 : Int)) = true := by simp [he]
      clear he
      go_enter Try.func29, Try.ntmps29
      go_wp2_with fail
      refine (sortedStrict a0 n0 c0 hn f _ h0).mono ?_
      rintro e w' ⟨⟨b, rfl, hb⟩, m, rfl⟩
      go_wp2
      go_ret
      exact ⟨fitB _ fun h => ⟨hz, H.out, hb h⟩, m, rfl⟩
    · have he' : ((n0 : Int) == (n1 : Int)) = false := by simp; omega
      go_enter Try.func29, Try.ntmps29
      go_wp2
      go_ret
      exact ⟨fitF, 0, rfl⟩
  · have hz' : decide ((0 : Int) < (n0 : Int)) = false := by simp; omega
    go_enter Try.func29, Try.ntmps29
    go_wp2
    go_ret
    exact ⟨fitF, 0, rfl⟩

theorem maxLen_any (a b : Nat) (w : World) : Calls Try.prog 24 #[.int .i64 a, .int .i64 b] w fun e w' => e = .returned (.int .i64 (max a b : Nat)) ∧ w' = w := by
  by_cases h : b < a
  · go_enter Try.func24, Try.ntmps24
    go_wp2
    go_ret
    exact ⟨by rw [Nat.max_eq_left (by omega)]; rfl, rfl⟩
  · go_enter Try.func24, Try.ntmps24
    go_wp2
    go_ret
    exact ⟨by rw [Nat.max_eq_right (by omega)]; rfl, rfl⟩

/-- Both sides are well formed. -/
def WF2 (f g : Nat → ByteArray) (n0 n1 n2 n3 : Nat) : Prop := (0 < n0 ∧ n0 = n1 ∧ Sorted f n0) ∧ (0 < n2 ∧ n2 = n3 ∧ Sorted g n2)

set_option maxHeartbeats 1000000 in
theorem mergeDomain (a0 a1 a2 a3 : Option Addr) (n0 c0 n1 c1 n2 c2 n3 c3 m : Nat) (b0 : n0 ≤ 1048576) (b2 : n2 ≤ 1048576) (f g : Nat → ByteArray) (w : World) (h0 : SA w a0 n0 f) (h2 : SA w a2 n2 g) :
    Calls Try.prog 22 #[.slice a0 n0 c0, .slice a1 n1 c1, .slice a2 n2 c2, .slice a3 n3 c3, .int .i64 m] w fun e w' => FitB (WF2 f g n0 n1 n2 n3 ∧ max n0 n2 ≤ m) e ∧ ∃ m, w' = w.drewN m := by
  go_enter Try.func22, Try.ntmps22
  go_wp2_with fail
  refine (wellFormed a0 a1 n0 c0 n1 c1 b0 f _ h0).mono ?_
  rintro e w' ⟨⟨b, rfl, hb⟩, m1, rfl⟩
  cases b with
  | false =>
    go_wp2
    go_ret
    exact ⟨fitF, m1, rfl⟩
  | true =>
    have hb1 : Hid _ := hb rfl
    clear hb
    go_wp2_with fail
    refine (wellFormed a2 a3 n2 c2 n3 c3 b2 g _ (show SA (w.drewN m1) a2 n2 g from h2)).mono ?_
    rintro e w' ⟨⟨b, rfl, hb⟩, m2, rfl⟩
    cases b with
    | false =>
      go_wp2
      go_ret
      exact ⟨fitF, m1 + m2, rfl⟩
    | true =>
      have hb2 : Hid _ := hb rfl
      clear hb
      go_wp2_with fail
      refine (maxLen_any n0 n2 _).mono ?_
      rintro e w' ⟨rfl, rfl⟩
      go_wp2
      go_ret
      exact ⟨fitB _ fun h => ⟨⟨hb1, hb2⟩, by have := of_decide_eq_true h; omega⟩, m1 + m2, rfl⟩

set_option maxHeartbeats 1000000 in
theorem smallDomain (a0 a1 a2 a3 : Option Addr) (n0 c0 n1 c1 n2 c2 n3 c3 : Nat) (f g : Nat → ByteArray) (w : World) (h0 : SA w a0 n0 f) (h2 : SA w a2 n2 g) :
    Calls Try.prog 11 #[.slice a0 n0 c0, .slice a1 n1 c1, .slice a2 n2 c2, .slice a3 n3 c3] w fun e w' => FitB (WF2 f g n0 n1 n2 n3 ∧ n0 ≤ 16 ∧ n2 ≤ 16) e ∧ ∃ m, w' = w.drewN m := by
  by_cases d0 : n0 ≤ 16
  · by_cases d2 : n2 ≤ 16
    · go_enter Try.func11, Try.ntmps11
      go_wp2_with fail
      refine (wellFormed a0 a1 n0 c0 n1 c1 (by omega) f _ h0).mono ?_
      rintro e w' ⟨⟨b, rfl, hb⟩, m1, rfl⟩
      cases b with
      | false =>
        go_wp2
        go_ret
        exact ⟨fitF, m1, rfl⟩
      | true =>
        have hb1 : Hid _ := hb rfl
        clear hb
        go_wp2_with fail
        refine (wellFormed a2 a3 n2 c2 n3 c3 (by omega) g _ (show SA (w.drewN m1) a2 n2 g from h2)).mono ?_
        rintro e w' ⟨⟨b, rfl, hb⟩, m2, rfl⟩
        go_wp2
        go_ret
        exact ⟨fitB _ fun h => ⟨⟨hb1, hb h⟩, d0, d2⟩, m1 + m2, rfl⟩
    · have e2 : decide ((n2 : Int) ≤ 16) = false := by simp; omega
      go_enter Try.func11, Try.ntmps11
      go_wp2
      go_ret
      exact ⟨fitF, 0, rfl⟩
  · have e2 : decide ((n0 : Int) ≤ 16) = false := by simp; omega
    go_enter Try.func11, Try.ntmps11
    go_wp2
    go_ret
    exact ⟨fitF, 0, rfl⟩

end Go.Proofs.Qxb6601531a
