import Derived.Test.Qxb6601691aBase
namespace Go.Proofs.Qxb6601691a
open Go.RowKit

/-! ### Plain -/
/-- The last place below m at which z is c, or -1. -/
def li (z : Nat → Int) (c : Int) : Nat → Int
  | 0 => -1
  | m + 1 => if z m = c then m else li z c m
/-- The last place i below m at which z i and z (i+1) are both a newline, or -1. -/
def mb (z : Nat → Int) : Nat → Int
  | 0 => -1
  | m + 1 => if z m = 10 ∧ z (m + 1) = 10 then m else mb z m

theorem li_cases (z : Nat → Int) (c : Int) (m : Nat) : (li z c m = -1 ∧ ∀ j, j < m → z j ≠ c) ∨ ∃ i : Nat, i < m ∧ li z c m = i ∧ z i = c ∧ ∀ j, i < j → j < m → z j ≠ c := by
  induction m with
  | zero => exact .inl ⟨rfl, fun j hj => by omega⟩
  | succ m ih =>
    rw [li]
    by_cases h : z m = c
    · rw [if_pos h]; exact .inr ⟨m, by omega, rfl, h, fun j h1 h2 => by omega⟩
    · rw [if_neg h]
      rcases ih with ⟨h1, h2⟩ | ⟨i, h1, h2, h3, h4⟩
      · refine .inl ⟨h1, fun j hj => ?_⟩
        by_cases e : j = m
        · rw [e]; exact h
        · exact h2 j (by omega)
      · refine .inr ⟨i, by omega, h2, h3, fun j h5 h6 => ?_⟩
        by_cases e : j = m
        · rw [e]; exact h
        · exact h4 j h5 (by omega)

/-- No pair from a on: the scan to b is the scan to a. -/
theorem mb_skip (z : Nat → Int) {a b : Nat} (hab : a ≤ b) (h : ∀ m, a ≤ m → m < b → ¬ (z m = 10 ∧ z (m + 1) = 10)) : mb z b = mb z a := by
  induction b with
  | zero => rw [show a = 0 by omega]
  | succ b ih =>
    by_cases e : a = b + 1
    · rw [e]
    · rw [mb, if_neg (h b (by omega) (by omega))]; exact ih (by omega) fun m h1 h2 => h m h1 (by omega)

theorem mb_none (z : Nat → Int) (e : Nat) (h : ∀ j, 0 < j → j < e → z j ≠ 10) : mb z (e - 1) = -1 := by
  rw [mb_skip z (Nat.zero_le (e - 1)) fun m _ h2 h3 => h (m + 1) (by omega) (by omega) h3.2]; rfl

theorem mb_hit (z : Nat → Int) (e i : Nat) (hi : i + 1 < e) (h0 : z i = 10) (h1 : z (i + 1) = 10) (h : ∀ j, i + 1 < j → j < e → z j ≠ 10) : mb z (e - 1) = i := by
  rw [mb_skip z (show i + 1 ≤ e - 1 by omega) fun m h2 h3 h4 => h (m + 1) (by omega) (by omega) h4.2, mb, if_pos ⟨h0, h1⟩]

theorem mb_miss (z : Nat → Int) (e i : Nat) (hi : i + 1 < e) (h0 : z i ≠ 10) (h : ∀ j, i + 1 < j → j < e → z j ≠ 10) : mb z (e - 1) = mb z i := by
  refine mb_skip z (by omega) fun m h2 h3 h4 => ?_
  by_cases q : m = i
  · exact h0 (q ▸ h4.1)
  · exact h (m + 1) (by omega) (by omega) h4.2

theorem IA.mono {k : IntKind} {w : World} {a : Option Addr} {n m : Nat} {z : Nat → Int} (h : IA k w a n z) (hm : m ≤ n) : IA k w a m z := by
  intro hp
  obtain ⟨b, o, ha, hc⟩ := h (by omega)
  exact ⟨b, o, ha, fun i hi => hc i (by omega)⟩

theorem ret_int {k : IntKind} {a b : Int} (h : a = b) : Ending.returned (.int k a) = .returned (.int k b) := by rw [h]

set_option maxHeartbeats 1000000 in
theorem lastIndex31 (a : Option Addr) (n c : Nat) (hn : n ≤ 1048576) (x : Int) (z : Nat → Int) (w : World) (hz : IA .u8 w a n z) :
    Calls Try.prog 31 #[.slice a n c, .int .u8 x] w fun e w' => e = .returned (.int .i64 (li z x n)) ∧ w' = w := by
  go_enter Try.func31, Try.ntmps31
  go_wp2
  go_loop [5] (fun i => ∃ k : Nat, k ≤ n ∧ i = .int .i64 (k - 1) ∧ Hid (li z x n = li z x k)) (fun i => (intOf i + 1).toNat)
  case atStart => exact ⟨n, Nat.le_refl _, rfl, rfl⟩
  case round =>
    obtain ⟨k, hk, rfl, hh⟩ := hrel
    by_cases hlt : 0 < k
    · obtain ⟨m, rfl⟩ : ∃ m, k = m + 1 := ⟨k - 1, by omega⟩
      obtain ⟨b, o, ha, hc⟩ := hz (by omega)
      subst ha
      have g1 := hc m (by omega)
      have em : ((m + 1 : Nat) : Int) - 1 = m := by omega
      rw [em]
      clear em hc hz
      by_cases hx : z m = x
      · have hb : (z m == x) = true := by simpa using hx
        have HX : Hid (z m = x) := hx
        clear hx
        go_wp2
        go_ret
        exact ⟨ret_int (by rw [hh.out, li, if_pos HX.out]), rfl⟩
      · have hb : (z m == x) = false := by simpa using hx
        go_wp2
        go_round
        case rel => exact ⟨m, by omega, by go_num, by show li z x n = _; rw [hh.out, li, if_neg hx]⟩
        case measure => simp [intOf]
    · have e : k = 0 := by omega
      subst e
      clear hz
      go_wp2
      go_ret
      exact ⟨ret_int (by rw [hh.out]; rfl), rfl⟩

theorem lastIndex30 (a : Option Addr) (n c : Nat) (hn : n ≤ 1048576) (x : Int) (z : Nat → Int) (w : World) (hz : IA .u8 w a n z) :
    Calls Try.prog 30 #[.slice a n c, .int .u8 x] w fun e w' => e = .returned (.int .i64 (li z x n)) ∧ w' = w := by
  go_enter Try.func30, Try.ntmps30
  go_wp2_with fail
  refine (lastIndex31 a n c hn x z _ hz).mono ?_
  rintro e w' ⟨rfl, rfl⟩
  go_wp2
  go_ret
  exact ⟨rfl, rfl⟩

set_option maxHeartbeats 1000000 in
theorem modelLast (a : Option Addr) (n c : Nat) (hn : n ≤ 1048576) (z : Nat → Int) (w : World) (hz : IA .u8 w a n z) :
    Calls Try.prog 25 #[.slice a n c] w fun e w' => e = .returned (.int .i64 (mb z (n - 1))) ∧ w' = w := by
  go_enter Try.func25, Try.ntmps25
  go_wp2
  go_loop [3, 4] (fun r i => ∃ k : Nat, (k + 1 ≤ n ∨ k = 0) ∧ i = .int .i64 k ∧ r = .int .i64 (mb z k)) (fun _ i => n - (intOf i).toNat)
  case atStart => exact ⟨0, .inr rfl, rfl, rfl⟩
  case round =>
    obtain ⟨k, hk, rfl, rfl⟩ := hrel
    by_cases hlt : k + 1 < n
    · obtain ⟨b, o, ha, hc⟩ := hz (by omega)
      subst ha
      have g1 := hc k (by omega)
      have g2 := hc (k + 1) hlt
      clear hc hz
      by_cases h1 : z k = 10
      · have b1 : (z k == 10) = true := by simpa using h1
        have H1 : Hid (z k = 10) := h1
        clear h1
        by_cases h2 : z (k + 1) = 10
        · have b2 : (z (k + 1) == 10) = true := by simpa using h2
          have H2 : Hid (z (k + 1) = 10) := h2
          clear h2
          go_wp2
          go_round
          case rel => exact ⟨k + 1, by omega, by go_num, by rw [mb, if_pos ⟨H1.out, H2.out⟩]⟩
          case measure => simp [intOf]; omega
        · have b2 : (z (k + 1) == 10) = false := by simpa using h2
          go_wp2
          go_round
          case rel => exact ⟨k + 1, by omega, by go_num, by rw [mb, if_neg fun h => h2 h.2]⟩
          case measure => simp [intOf]; omega
      · have b1 : (z k == 10) = false := by simpa using h1
        go_wp2
        go_round
        case rel => exact ⟨k + 1, by omega, by go_num, by rw [mb, if_neg fun h => h1 h.1]⟩
        case measure => simp [intOf]; omega
    · clear hz
      go_wp2
      go_ret
      exact ⟨ret_int (by rw [show n - 1 = k by omega]), rfl⟩

set_option maxHeartbeats 1000000 in
theorem lastBlank29 (a : Option Addr) (n c : Nat) (hn : n ≤ 1048576) (hnc : n ≤ c) (z : Nat → Int) (w : World) (hz : IA .u8 w a n z) :
    Calls Try.prog 29 #[.slice a n c] w fun e w' => e = .returned (.int .i64 (mb z (n - 1))) ∧ w' = w := by
  go_enter Try.func29, Try.ntmps29
  go_wp2
  go_loop [3] (fun i => ∃ k : Nat, k ≤ n ∧ i = .int .i64 k ∧ Hid (mb z (n - 1) = mb z (k - 1))) (fun i => (intOf i).toNat)
  case atStart => exact ⟨n, Nat.le_refl _, rfl, rfl⟩
  case round =>
    obtain ⟨k, hk, rfl, hh⟩ := hrel
    go_wp2_with fail
    refine (lastIndex30 a k c (by omega) 10 z _ (hz.mono hk)).mono ?_
    rintro e w' ⟨rfl, rfl⟩
    rcases li_cases z 10 k with ⟨hli, hno⟩ | ⟨i, hi, hli, h10, hno⟩
    · rw [hli]
      have HR : Hid (mb z (k - 1) = -1) := mb_none z k fun j _ hj => hno j hj
      clear hli hno hz
      go_wp2
      go_ret
      exact ⟨ret_int (by rw [hh.out, HR.out]), rfl⟩
    · rw [hli]
      clear hli
      by_cases hi0 : i = 0
      · subst hi0
        have HR : Hid (mb z (k - 1) = -1) := mb_none z k hno
        clear hno hz h10
        go_wp2
        go_ret
        exact ⟨ret_int (by rw [hh.out, HR.out]), rfl⟩
      · obtain ⟨m, rfl⟩ : ∃ m, i = m + 1 := ⟨i - 1, by omega⟩
        obtain ⟨b, o, ha, hc⟩ := hz (by omega)
        subst ha
        have g1 := hc m (by omega)
        by_cases h9 : z m = 10
        · have hb : (z m == 10) = true := by simpa using h9
          have HR : Hid (mb z (k - 1) = m) := mb_hit z k m hi h9 h10 hno
          clear hno hz h10 h9 hc
          go_wp2
          go_ret
          exact ⟨ret_int (by rw [hh.out, HR.out]), rfl⟩
        · have hb : (z m == 10) = false := by simpa using h9
          have HR : Hid (mb z (k - 1) = mb z m) := mb_miss z k m hi h9 hno
          clear hno h10 h9 hc
          go_wp2
          go_round
          case rel => exact ⟨m + 1, by omega, by go_num, by show mb z (n - 1) = _; rw [hh.out, HR.out]; rfl⟩
          case measure => simp [intOf]; omega

theorem lastBlank24 (a : Option Addr) (n c : Nat) (hn : n ≤ 1048576) (hnc : n ≤ c) (z : Nat → Int) (w : World) (hz : IA .u8 w a n z) :
    Calls Try.prog 24 #[.slice a n c] w fun e w' => e = .returned (.int .i64 (mb z (n - 1))) ∧ w' = w := by
  go_enter Try.func24, Try.ntmps24
  go_wp2_with fail
  refine (lastBlank29 a n c hn hnc z _ hz).mono ?_
  rintro e w' ⟨rfl, rfl⟩
  go_wp2
  go_ret
  exact ⟨rfl, rfl⟩

theorem zz22 (a : Option Addr) (n c : Nat) (w : World) : Calls Try.prog 22 #[.slice a n c] w fun e w' => FitB True e ∧ w' = w := by
  go_enter Try.func22, Try.ntmps22
  go_wp2
  all_goals (go_ret; exact ⟨fitB _ fun _ => trivial, rfl⟩)

/-- It returned a slice of n integers z, in the new world, with room for them. -/
def IntsC (k : IntKind) (n : Nat) (z : Nat → Int) (w w' : World) (e : Ending) : Prop := ∃ a c, e = .returned (.slice a n c) ∧ n ≤ c ∧ IA k w' a n z ∧ Below w.heap.size w w'
theorem intsC {k : IntKind} {n : Nat} {z : Nat → Int} {w w' : World} (a : Option Addr) (c : Nat) (hc : n ≤ c) (h : IA k w' a n z) (hb : Below w.heap.size w w') : IntsC k n z w w' (.returned (.slice a n c)) := ⟨a, c, rfl, hc, h, hb⟩

set_option maxRecDepth 100000 in
set_option maxHeartbeats 1000000 in
theorem cloneBytesC (a : Option Addr) (n c : Nat) (hn : n ≤ 1048576) (h0 : a = none → n = 0) (z : Nat → Int) (w : World) (hz : IA .u8 w a n z) :
    Calls Try.prog 23 #[.slice a n c] w fun e w' => IntsC .u8 n z w w' e := by
  cases a with
  | none =>
    have hq : ∀ w, (binOp .eql 42 (.slice none n c) (.slice none 0 0)).run Try.prog w = .ok (.bool true) w := fun w => Lib.run_eql_slice_nil w 42 5 _ n c 0 0 Try.underlying42
    obtain rfl := h0 rfl
    go_enter Try.func23, Try.ntmps23
    go_wp2
    go_ret
    exact intsC _ _ (Nat.le_refl _) (by intro h; omega) (Below.refl _ _)
  | some ad =>
    have hm1 := run_make_row' (P := Try.prog) 42 5 (.int .u8 0) 1 Try.underlying42 Try.info5 rfl .i64 .i64 n (by omega) (by omega)
    have hq : ∀ w, (binOp .eql 42 (.slice (some ad) n c) (.slice none 0 0)).run Try.prog w = .ok (.bool false) w := fun w => Lib.run_eql_slice_nil w 42 5 _ n c 0 0 Try.underlying42
    go_enter Try.func23, Try.ntmps23
    go_wp2
    clear hq
    go_loopw [4] (fun i wr => ∃ k : Nat, k ≤ n ∧ i = .int .i64 k ∧ wr.rowIs w.heap.size 5 n (fun i => if i < k then .int .u8 (z i) else .int .u8 0) ∧ Below w.heap.size w wr) (fun i _ => n - (intOf i).toNat)
    case atStart => exact ⟨0, Nat.zero_le _, rfl, (World.rowIs_made w _ n 5).congr (by intro i _; simp), (Below.refl _ _).alloc (Nat.le_refl _) _⟩
    case round =>
      obtain ⟨k, hk, rfl, hr, hbel⟩ := hrel
      by_cases hlt : k < n
      · obtain ⟨b, o, ha, hc⟩ := hz (by omega)
        injection ha with ha
        subst ha
        have g1 : wr.cell? ⟨b, o + k, none⟩ = some (.int .u8 (z k)) := (hbel.cell (p := ⟨b, o + k, none⟩) (World.block_lt_of_cell? w _ (hc k hlt))).trans (hc k hlt)
        have g2 := hr.cell hlt
        have g3 := hr.frozen k
        simp only [Nat.lt_irrefl, if_false] at g2
        clear hc hz hm1
        go_wp2
        go_roundw
        case rel =>
          refine ⟨k + 1, by omega, by go_num, (hr.set k (.int .u8 (z k))).congr ?_, hbel.setCell (p := ⟨w.heap.size, k, none⟩) (Nat.le_refl _) _⟩
          intro i hi
          by_cases e : i = k
          · subst e; simp
          · simp only [e, if_false]
            by_cases e2 : i < k
            · rw [if_pos e2, if_pos (by omega)]
            · rw [if_neg e2, if_neg (by omega)]
        case measure => simp [intOf]; omega
      · clear hm1 hz
        go_wp2
        go_ret
        refine intsC _ _ (Nat.le_refl _) (fun _ => ⟨w.heap.size, 0, rfl, fun i hi => ?_⟩) hbel
        rw [Nat.zero_add, hr.cell hi, if_pos (by omega)]

set_option maxHeartbeats 1000000 in
theorem blank_law (a : Option Addr) (n c : Nat) (z : Nat → Int) (w : World) (e0 : a = none → n = 0) (hz : IA .u8 w a n z) :
    Calls Try.prog 7 #[.slice a n c] w fun e w' => e = .returned (.bool true) ∧ Below w.heap.size w w' := by
  go_enter Try.func7, Try.ntmps7
  go_wp2_with fail
  refine (zz22 a n c _).mono ?_
  rintro e w' ⟨⟨b, rfl, -⟩, rfl⟩
  cases b with
  | false =>
    go_wp2
    go_ret
    exact ⟨rfl, Below.refl _ _⟩
  | true =>
  by_cases hn : 1048576 < n
  · go_wp2
    go_ret
    exact ⟨rfl, Below.refl _ _⟩
  go_wp2_with fail
  refine (cloneBytesC a n c (by omega) e0 z _ hz).mono ?_
  rintro e w1 ⟨a', c', rfl, hc', h', hb⟩
  go_wp2_with fail
  refine (lastBlank24 a' n c' (by omega) hc' z _ h').mono ?_
  rintro e w2 ⟨rfl, rfl⟩
  go_wp2_with fail
  refine (modelLast a' n c' (by omega) z _ h').mono ?_
  rintro e w3 ⟨rfl, rfl⟩
  go_wp2
  go_ret
  exact ⟨by simp, hb⟩
end Go.Proofs.Qxb6601691a
