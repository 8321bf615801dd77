import Derived.Test.Qxb6601691aShares
namespace Go.Proofs.Qxb6601691a
open Go.RowKit

set_option maxHeartbeats 1000000 in
theorem zz16 (a0 a2 : Option Addr) (n0 c0 n2 c2 : Nat) (s : Int) (w : World) :
    Calls Try.prog 16 #[.slice a0 n0 c0, .int .u64 s, .slice a2 n2 c2] w fun e w' => FitB True e ∧ w' = w := by
  go_enter Try.func16, Try.ntmps16
  go_wp2
  all_goals (go_ret; exact ⟨fitB _ fun _ => trivial, rfl⟩)

set_option maxHeartbeats 1000000 in
theorem sharesDomain (a0 a2 : Option Addr) (n0 c0 n2 c2 : Nat) (hn2 : n2 ≤ 65536) (z : Nat → Int) (w : World) (h2 : IA .u64 w a2 n2 z) :
    Calls Try.prog 17 #[.slice a0 n0 c0, .slice a2 n2 c2] w fun e w' => FitB (∀ k, k < n2 → z k ≠ 0 → k < n0) e ∧ w' = w := by
  go_enter Try.func17, Try.ntmps17
  go_wp2
  go_loop [5] (fun i => ∃ k : Nat, k ≤ n2 ∧ i = .int .i64 k ∧ Hid (∀ j, j < k → z j ≠ 0 → j < n0)) (fun i => n2 - (intOf i).toNat)
  case atStart => exact ⟨0, Nat.zero_le _, rfl, fun j hj => by omega⟩
  case round =>
    obtain ⟨k, hk, rfl, hh⟩ := hrel
    by_cases hlt : k < n2
    · obtain ⟨b, o, ha, hc⟩ := h2 (by omega)
      subst ha
      have g1 := hc k hlt
      clear hc h2
      by_cases hzk : z k = 0
      · have hzb : (z k != 0) = false := by simp [hzk]
        have HZ : Hid (z k = 0) := hzk
        clear hzk
        go_wp2
        go_round
        case rel =>
          refine ⟨k + 1, by omega, by go_num, fun j hj hz => ?_⟩
          by_cases e : j = k
          · rw [e] at hz; exact absurd HZ.out hz
          · exact hh.out j (by omega) hz
        case measure => simp [intOf]; omega
      · have hzb : (z k != 0) = true := by simpa using hzk
        by_cases hlt' : k < n0
        · have hge : decide ((n0 : Int) ≤ k) = false := by simp; omega
          go_wp2
          go_round
          case rel =>
            refine ⟨k + 1, by omega, by go_num, fun j hj hz => ?_⟩
            by_cases e : j = k
            · rw [e]; exact hlt'
            · exact hh.out j (by omega) hz
          case measure => simp [intOf]; omega
        · have hge : (n0 : Int) ≤ k := by omega
          go_wp2
          go_ret
          exact ⟨fitF, rfl⟩
    · clear h2
      go_wp2
      go_ret
      exact ⟨fitB _ fun _ j hj => hh.out j (by omega), rfl⟩

theorem wrap_over {a b : Int} (ha : 0 ≤ a ∧ a < 18446744073709551616) (hb : 0 ≤ b ∧ b < 18446744073709551616) (h : ¬ a + b < 18446744073709551616) : IntKind.u64.wrap (a + b) < a := by
  have : IntKind.u64.wrap (a + b) = (a + b) % 18446744073709551616 := rfl
  omega

/-- The end ahead of share j. -/
def prevE (s : Int) (l : List (Int × Int)) : Nat → Int
  | 0 => s
  | j + 1 => (l.getD j (0, 0)).2

theorem prev_succ (s : Int) {l : List (Int × Int)} {j : Nat} {p : Int × Int} (h : l[j]? = some p) : prevE s l (j + 1) = p.2 := by simp [prevE, h]

theorem prev_lt {s E : Int} {l : List (Int × Int)} (h1 : ∀ (j : Nat) (p : Int × Int), l[j]? = some p → s < p.2 ∧ p.2 ≤ E) (h2 : ∀ (j : Nat) (p q : Int × Int), l[j]? = some p → l[j + 1]? = some q → p.2 < q.2)
    {j : Nat} {p : Int × Int} (h : l[j]? = some p) : prevE s l j < p.2 := by
  cases j with
  | zero => exact (h1 0 p h).1
  | succ j =>
    obtain ⟨q, hq⟩ : ∃ q, l[j]? = some q := ⟨_, List.getElem?_eq_getElem (by have := (List.getElem?_eq_some_iff.1 h).1; omega)⟩
    rw [prev_succ s hq]
    exact h2 j q p hq h

set_option maxHeartbeats 2000000 in
theorem shares_law (a0 a2 : Option Addr) (n0 c0 n2 c2 : Nat) (s : Int) (od z : Nat → Int) (w : World) (e0 : a0 = none → n0 = 0) (e2 : a2 = none → n2 = 0) (h0 : IA .i64 w a0 n0 od) (h2 : IA .u64 w a2 n2 z)
    (hs : 0 ≤ s ∧ s < 18446744073709551616) (hz : ∀ k, k < n2 → 0 ≤ z k ∧ z k < 18446744073709551616) :
    Calls Try.prog 5 #[.slice a0 n0 c0, .int .u64 s, .slice a2 n2 c2] w fun e w' => e = .returned (.bool true) ∧ Below w.heap.size w w' := by
  go_enter Try.func5, Try.ntmps5
  go_wp2_with fail
  refine (zz16 a0 a2 n0 c0 n2 c2 s _).mono ?_
  rintro e w' ⟨⟨b, rfl, -⟩, rfl⟩
  cases b with
  | false =>
    go_wp2
    go_ret
    exact ⟨rfl, Below.refl _ _⟩
  | true =>
  by_cases hn0 : 65536 < n0
  · go_wp2
    go_ret
    exact ⟨rfl, Below.refl _ _⟩
  by_cases hn2 : 65536 < n2
  · go_wp2
    go_ret
    exact ⟨rfl, Below.refl _ _⟩
  go_wp2_with fail
  refine (sharesDomain a0 a2 n0 c0 n2 c2 (by omega) z _ h2).mono ?_
  rintro e w'' ⟨⟨b, rfl, hd⟩, rfl⟩
  cases b with
  | false =>
    go_wp2
    go_ret
    exact ⟨rfl, Below.refl _ _⟩
  | true =>
  have hd' : Hid _ := hd rfl
  clear hd
  go_wp2
  go_loop [7, 8, 9] (fun t m i => ∃ k : Nat, k ≤ n2 ∧ i = .int .i64 k ∧ t = .int .u64 (En s z k) ∧ m = .int .i64 (sh s z od k).length ∧ Hid (∀ j, j ≤ k → 0 ≤ En s z j ∧ En s z j < 18446744073709551616)) (fun _ _ i => n2 - (intOf i).toNat)
  case atStart => exact ⟨0, Nat.zero_le _, rfl, rfl, rfl, fun j hj => by rw [show j = 0 by omega]; exact hs⟩
  case round =>
    obtain ⟨k, hk, rfl, rfl, rfl, hE⟩ := hrel
    by_cases hlt : k < n2
    · obtain ⟨b, o, ha, hc⟩ := h2 (by omega)
      subst ha
      have g1 := hc k hlt
      have b1 := hE.out k (Nat.le_refl _)
      have b2 := hz k hlt
      have hl := sh_le s z od k
      clear hc h2
      by_cases hov : En s z k + z k < 18446744073709551616
      · have hE' : ∀ j, j ≤ k + 1 → 0 ≤ En s z j ∧ En s z j < 18446744073709551616 := by
          intro j hj
          by_cases e : j = k + 1
          · rw [e, En]; omega
          · exact hE.out j (by omega)
        have HE : Hid _ := hE'
        clear hE'
        by_cases hzk : z k = 0
        · have hzb : (z k != 0) = false := by simp [hzk]
          have HZ : Hid (z k = 0) := hzk
          clear hzk
          go_wp2
          go_round
          case rel => exact ⟨k + 1, by omega, by go_num, by rw [En], by rw [sh, if_pos HZ.out], HE⟩
          case measure => simp [intOf]; omega
        · have hzb : (z k != 0) = true := by simpa using hzk
          go_wp2
          go_round
          case rel => exact ⟨k + 1, by omega, by go_num, by rw [En], by rw [sh, if_neg hzk, List.length_append]; go_num, HE⟩
          case measure => simp [intOf]; omega
      · have hw := wrap_over b1 b2 hov
        go_wp2
        go_ret
        exact ⟨rfl, Below.refl _ _⟩
    · have e : k = n2 := by omega
      subst e
      go_wp2_with fail
      refine (cloneInts a0 n0 c0 (by omega) e0 od _ h0).mono ?_
      rintro e w1 ⟨a0', c0', rfl, h0', hb1⟩
      go_wp2_with fail
      refine (cloneU64 a2 k c2 (by omega) e2 z _ (h2.below hb1)).mono ?_
      rintro e w2 ⟨a2', c2', rfl, h2', hb2⟩
      have h0'' := h0'.below hb2
      clear h0' h0 h2
      go_wp2_with fail
      refine (zzSharesOf (sh s z od k) a0' a2' n0 c0' k c2' (by omega) (by omega) s od z _ h0'' h2' hd'.out (fun j hj => (hz j hj).1) hE.out rfl).mono ?_
      rintro e w3 ⟨v, rfl, hR, hb3⟩
      have hbel := (hb1.trans (hb2.mono hb1.size)).trans (hb3.mono (Nat.le_trans hb1.size hb2.size))
      have hends := sh_ends s z od k (fun j hj => (hz j hj).1) k (Nat.le_refl _)
      have hlen := sh_le s z od k
      have hEk := hE.out k (Nat.le_refl _)
      clear hb1 hb2 hb3 h0'' h2' hd' hE hz
      generalize hl : sh s z od k = l at *
      have HL : Hid _ := hl
      clear hl
      obtain ⟨E, hEE⟩ : ∃ E, E = En s z k := ⟨_, rfl⟩
      rw [← hEE] at hends hEk
      have HEE : Hid (E = En s z k) := hEE
      rcases hR with ⟨hv, hn⟩ | ⟨g, hv, hcell⟩
      · subst hv
        have hl0 : l = [] := List.eq_nil_of_length_eq_zero hn
        subst hl0
        clear hends hEE
        go_wp2
        refine wp_loop_rounds 1 ?_
        rw [rounds_succ]
        go_wp2
        go_ret
        exact ⟨rfl, hbel⟩
      · subst hv
        rw [← hEE]
        clear hEE
        go_wp2
        go_loop [12, 13] (fun t i => ∃ j : Nat, j ≤ l.length ∧ i = .int .i64 j ∧ t = .int .u64 (prevE s l j)) (fun _ i => l.length - (intOf i).toNat)
        case atStart => exact ⟨0, Nat.zero_le _, rfl, rfl⟩
        case round =>
          obtain ⟨j, hj, rfl, rfl⟩ := hrel
          by_cases hlt : j < l.length
          · obtain ⟨p, hp⟩ : ∃ p, l[j]? = some p := ⟨_, List.getElem?_eq_getElem hlt⟩
            have g1 := hcell j p hp
            have g2 : prevE s l j < p.2 := prev_lt hends.1 hends.2.1 hp
            have g3 := (hends.1 j p hp).2
            have g4 := prev_succ s hp
            have G4 : Hid _ := g4
            have HP : Hid _ := hp
            clear hends g4 hp hcell
            go_wp2
            go_round
            case rel => exact ⟨j + 1, by omega, by go_num, by rw [G4.out]⟩
            case measure => simp [intOf]; omega
          · by_cases hpos : 0 < l.length
            · obtain ⟨p, hp⟩ : ∃ p, l[l.length - 1]? = some p := ⟨_, List.getElem?_eq_getElem (by omega)⟩
              have g1 := hcell _ p hp
              have g3 : (p.2 != E) = false := by simp [hends.2.2 p hp]
              have HP : Hid _ := hp
              clear hends hp hcell
              go_wp2
              go_ret
              exact ⟨rfl, hbel⟩
            · have hd0 : decide ((0 : Int) < l.length) = false := decide_eq_false (by omega)
              clear hends hcell
              go_wp2
              go_ret
              exact ⟨rfl, hbel⟩
end Go.Proofs.Qxb6601691a
