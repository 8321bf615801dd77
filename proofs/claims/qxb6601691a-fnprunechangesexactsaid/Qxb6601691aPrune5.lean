import Derived.Test.Qxb6601691aPrune4
namespace Go.Proofs.Qxb6601691a
open Go.RowKit

theorem zz9 (a : Option Addr) (n c : Nat) (s : Int) (w : World) : Calls Try.prog 9 #[.slice a n c, .int .u64 s] w fun e w' => FitB True e ∧ w' = w := by
  go_enter Try.func9, Try.ntmps9
  go_wp2
  all_goals (go_ret; exact ⟨fitB _ fun _ => trivial, rfl⟩)

set_option maxRecDepth 100000 in
set_option maxHeartbeats 2000000 in
theorem sameZZ (a1 a2 : Option Addr) (n c1 c2 : Nat) (hn : n ≤ 32768) (hnil : a1.isNone = a2.isNone) (x : Nat → Chg) (w : World) (h1 : CA w a1 n x) (h2 : CA w a2 n x) :
    Calls Try.prog 14 #[.slice a1 n c1, .slice a2 n c2] w fun e w' => e = .returned (.bool true) ∧ ∃ m, w' = w.drewN m := by
  have hq1 : ∀ w, (binOp .eql 26 (.slice a1 n c1) (.slice none 0 0)).run Try.prog w = .ok (.bool a1.isNone) w := fun w => Lib.run_eql_slice_nil w 26 50 _ n c1 0 0 Try.underlying26
  have hq2 : ∀ w, (binOp .eql 26 (.slice a2 n c2) (.slice none 0 0)).run Try.prog w = .ok (.bool a1.isNone) w := fun w => by rw [hnil]; exact Lib.run_eql_slice_nil w 26 50 _ n c2 0 0 Try.underlying26
  have hbb : (a1.isNone != a1.isNone) = false := by simp
  clear hnil
  go_enter Try.func14, Try.ntmps14
  go_wp2
  go_loopw [5] (fun i wr => ∃ k : Nat, k ≤ n ∧ i = .int .i64 k ∧ ∃ m, wr = w.drewN m) (fun i _ => n - (intOf i).toNat)
  case atStart => exact ⟨0, Nat.zero_le _, rfl, 0, rfl⟩
  case round =>
    clear hq1 hq2
    obtain ⟨k, hk, rfl, m, rfl⟩ := hrel
    by_cases hlt : k < n
    · obtain ⟨b1, o1, ha1, hc1⟩ := h1 (by omega)
      obtain ⟨b2, o2, ha2, hc2⟩ := h2 (by omega)
      subst ha1
      subst ha2
      obtain ⟨g1, g2, g3⟩ := hc1 k hlt
      obtain ⟨g4, g5, g6⟩ := hc2 k hlt
      have i1 : (k : Int) < n := by omega
      clear hc1 hc2 h1 h2
      go_wp2
      go_quiet (fail)
      go_wp2
      go_roundw
      case rel => exact ⟨k + 1, by omega, by go_num, m + nq, rfl⟩
      case measure => simp [intOf]; omega
    · clear h1 h2
      go_wp2
      go_ret
      exact ⟨rfl, m, rfl⟩
set_option maxHeartbeats 2000000 in
theorem prune_law (a : Option Addr) (n c : Nat) (x : Nat → Chg) (size : Int) (w : World) (e0 : a = none → n = 0) (hz : CA w a n x) :
    Calls Try.prog 3 #[.slice a n c, .int .u64 size] w fun e w' => e = .returned (.bool true) ∧ Below w.heap.size w w' := by
  go_enter Try.func3, Try.ntmps3
  go_wp2_with fail
  refine (zz9 a n c size _).mono ?_
  rintro e w' ⟨⟨b, rfl, -⟩, rfl⟩
  cases b with
  | false =>
    go_wp2
    go_ret
    exact ⟨rfl, Below.refl _ _⟩
  | true =>
  by_cases hn : 32768 < n
  · go_wp2
    go_ret
    exact ⟨rfl, Below.refl _ _⟩
  have hn' : n ≤ 32768 := by omega
  obtain ⟨L, hL0⟩ : ∃ L, L = prn x size n := ⟨_, rfl⟩
  have hL : Hid (L = prn x size n) := hL0
  have hle : L.length ≤ n := by rw [hL0]; exact prn_le _ _ _
  clear hL0
  go_wp2_with fail
  refine (cloneChanges a n c (by omega) e0 x _ hz).mono ?_
  rintro e w1 ⟨a1, c1, rfl, n1, z1, h1, hb1⟩
  go_wp2_with fail
  refine (toZZ a1 n c1 (by omega) z1 x _ h1).mono ?_
  rintro e w2 ⟨a2, c2, rfl, n2, z2, h2, hb2⟩
  go_wp2_with fail
  refine (zzPrune a2 n c2 hn' z2 x size _ h2 L hL).mono ?_
  rintro e w3 ⟨a3, c3, rfl, n3, z3, h3, hb3⟩
  go_wp2_with fail
  refine (modelPrune a1 n c1 hn' z1 x size _ ((h1.below hb2).below hb3) L hL).mono ?_
  rintro e w4 ⟨a4, c4, rfl, n4, z4, h4, hb4⟩
  go_wp2_with fail
  refine (toZZ a4 L.length c4 (by omega) z4 _ _ h4.to).mono ?_
  rintro e w5 ⟨a5, c5, rfl, n5, z5, h5, hb5⟩
  go_wp2_with fail
  refine (sameZZ a3 a5 L.length c3 c5 (by omega) (by rw [n3, n2, n5, n4]) _ _ ((h3.to.below hb4).below hb5) h5).mono ?_
  rintro e w6 ⟨rfl, m, rfl⟩
  have s1 := hb1.size
  have s2 := hb2.size
  have s3 := hb3.size
  have s4 := hb4.size
  have hb : Below w'.heap.size w' w5 := (((hb1.trans (hb2.mono (by omega))).trans (hb3.mono (by omega))).trans (hb4.mono (by omega))).trans (hb5.mono (by omega))
  clear h1 h2 h3 h4 h5 hb1 hb2 hb3 hb4 hb5 hz
  go_wp2
  go_ret
  exact ⟨rfl, hb.os, hb.tape, hb.output, hb.size, hb.block⟩
end Go.Proofs.Qxb6601691a
