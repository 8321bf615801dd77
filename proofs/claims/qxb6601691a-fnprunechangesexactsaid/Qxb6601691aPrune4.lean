import Derived.Test.Qxb6601691aPrune3
namespace Go.Proofs.Qxb6601691a
open Go.RowKit

/-- The pruned list. -/
def prn (x : Nat → Chg) (size : Int) (n : Nat) : List Chg := match since x size n with
  | none => (List.range n).map x
  | some s => fl s x n

theorem prn_le (x : Nat → Chg) (size : Int) (n : Nat) : (prn x size n).length ≤ n := by
  unfold prn
  split
  · simp
  · exact fl_le _ _ _

/-- What is known of a slice of the changes l. -/
def CL (w : World) (a : Option Addr) (l : List Chg) : Prop :=
  0 < l.length → ∃ b o, a = some ⟨b, o, none⟩ ∧ ∀ (i : Nat) (p : Chg), l[i]? = some p → C3 w b (o + i * 3) p

theorem CL.of {w : World} {a : Option Addr} {n : Nat} {x : Nat → Chg} (h : CA w a n x) : CL w a ((List.range n).map x) := by
  intro hn
  obtain ⟨b, o, ha, hc⟩ := h (by simpa using hn)
  refine ⟨b, o, ha, fun i p hp => ?_⟩
  have hi : i < n := by simpa using (List.getElem?_eq_some_iff.1 hp).1
  simp [hi] at hp
  rw [← hp]
  exact hc i hi

theorem CL.to {w : World} {a : Option Addr} {l : List Chg} (h : CL w a l) : CA w a l.length (fun i => l.getD i (0, 0, false)) := by
  intro hn
  obtain ⟨b, o, ha, hc⟩ := h hn
  refine ⟨b, o, ha, fun i hi => ?_⟩
  refine hc i _ ?_
  show l[i]? = some (l.getD i (0, 0, false))
  rw [List.getD_eq_getElem?_getD, List.getElem?_eq_getElem hi]
  rfl

set_option maxRecDepth 100000 in
theorem prune_any' (g n : Nat) (hn : n ≤ 32768) (x : Nat → Chg) (size : Int) (L : List Chg) (hL : Hid (L = prn x size n)) (w : World) (hrow : ∀ j, j < n → C3 w g (j * 3) (x j)) (hfr : ∀ j, j < n → F3 w g (j * 3)) (hg : g < w.heap.size) :
    Calls Try.prog 27 #[.slice (some ⟨g, 0, none⟩) n n, .int .u64 size] w fun e w' => e = .returned (.slice (some ⟨g, 0, none⟩) L.length n) ∧ (∀ (j : Nat) (p : Chg), L[j]? = some p → C3 w' g (j * 3) p) ∧ Below g w w' := by
  refine (prune_any g n hn x size w hrow hfr hg).mono fun e w' h => ?_
  rw [hL.out]
  unfold prn
  cases hs : since x size n with
  | none =>
    rw [hs] at h
    obtain ⟨h1, h2, h3⟩ := h
    refine ⟨by rw [h1]; simp, fun j p hj => ?_, h3⟩
    have hi : j < n := by simpa using (List.getElem?_eq_some_iff.1 hj).1
    simp [hi] at hj
    rw [← hj]
    exact h2 j hi
  | some s => rw [hs] at h; exact h

theorem prune_nil (size : Int) (w : World) :
    Calls Try.prog 27 #[.slice none 0 0, .int .u64 size] w fun e w' => e = .returned (.slice none 0 0) ∧ w' = w := by
  go_enter Try.func27, Try.ntmps27
  go_wp2
  refine wp_loop_rounds 1 ?_
  rw [rounds_succ]
  go_wp2
  go_ret
  exact ⟨rfl, rfl⟩

/-- It returned a slice of the changes l, nil or not as said, in the new world. -/
def LsR (nil : Bool) (l : List Chg) (w w' : World) (e : Ending) : Prop := ∃ a c, e = .returned (.slice a l.length c) ∧ a.isNone = nil ∧ (a = none → l.length = 0) ∧ CL w' a l ∧ Below w.heap.size w w'
theorem lsR {nil : Bool} {l : List Chg} {w w' : World} (a : Option Addr) (n c : Nat) (hn : n = l.length) (h1 : a.isNone = nil) (h2 : a = none → l.length = 0) (h3 : CL w' a l) (h4 : Below w.heap.size w w') : LsR nil l w w' (.returned (.slice a n c)) := ⟨a, c, by rw [hn], h1, h2, h3, h4⟩

set_option maxRecDepth 100000 in
set_option maxHeartbeats 2000000 in
theorem zzPrune (a : Option Addr) (n c : Nat) (hn : n ≤ 32768) (h0 : a = none → n = 0) (x : Nat → Chg) (size : Int) (w : World) (hz : CA w a n x) (L : List Chg) (hL : Hid (L = prn x size n)) :
    Calls Try.prog 11 #[.slice a n c, .int .u64 size] w fun e w' => LsR a.isNone L w w' e := by
  cases a with
  | none =>
    obtain rfl := h0 rfl
    have hq : ∀ w, (binOp .neq 26 (.slice none 0 c) (.slice none 0 0)).run Try.prog w = .ok (.bool false) w := fun w => run_neq_slice_nil_any w 26 50 _ 0 c 0 0 Try.underlying26
    have hq2 : ∀ w, (binOp .eql 49 (.slice none 0 0) (.slice none 0 0)).run Try.prog w = .ok (.bool true) w := fun w => Lib.run_eql_slice_nil w 49 52 _ 0 0 0 0 Try.underlying49
    have hl : L.length = 0 := by rw [hL.out]; simp [prn, since]
    go_enter Try.func11, Try.ntmps11
    go_wp2_with (go_at_call 27; refine (prune_nil size _).mono ?_; rintro e w' ⟨rfl, rfl⟩)
    go_ret
    exact lsR _ _ _ hl.symm rfl (fun _ => hl) (by intro h; omega) (Below.refl _ _)
  | some ad =>
    obtain ⟨i0, hi, hz1, hz2, hz3⟩ := info_parts Try.info52
    have hq : ∀ w, (binOp .neq 26 (.slice (some ad) n c) (.slice none 0 0)).run Try.prog w = .ok (.bool true) w := fun w => run_neq_slice_nil_any w 26 50 _ n c 0 0 Try.underlying26
    go_enter Try.func11, Try.ntmps11
    go_wp2_with (at_make; refine wpList_make_full _ rfl _ _ 49 rfl w.heap.size 52 i0 (.agg #[.int .u64 0, .int .u64 0, .bool false]) 3 Try.underlying49 hi hz1 hz2 .i64 .i64 n n n rfl rfl rfl rfl ?b1 ?b2 ?b3 ?_)
    case b1 => rw [hz3]; omega
    case b2 => unfold maxLen; omega
    case b3 => exact Nat.le_refl _
    intro w2 hown2 hgrow
    have hst := cp3_start n x 52 hown2 ((Below.refl _ _).grown hgrow (Nat.le_refl _) (by simp))
    have hsz : w.heap.size < w2.heap.size := (hown2.lt _ rfl).2
    clear hown2 hgrow hq hi hz1 hz2 hz3
    go_wp2
    go_loopw [6] (fun i wr => ∃ k : Nat, k ≤ n ∧ i = .int .i64 k ∧ Cp3 n x w.heap.size w wr k ∧ w.heap.size < wr.heap.size) (fun i _ => n - (intOf i).toNat)
    case atStart => exact ⟨0, Nat.zero_le _, rfl, hst, hsz⟩
    case round =>
      obtain ⟨k, hk, rfl, hcp, hszr⟩ := hrel
      by_cases hlt : k < n
      · obtain ⟨b, o, ha, hc⟩ := hz (by omega)
        injection ha with ha
        subst ha
        obtain ⟨g1, g2, g3⟩ := (hc k hlt).below hcp.2.2 (hc k hlt).lt
        obtain ⟨⟨d, d1, d2, d3⟩, f1, f2, f3⟩ := hcp.1 k hlt
        have hcp' := (cp3_step hcp hlt).drew
        have i1 : (k : Int) < n := by omega
        unfold put3 at hcp'
        clear hc hz hst
        go_wp2
        go_region
        all_goals
          go_wp2
          go_roundw
          case rel => exact ⟨k + 1, by omega, by go_num, hcp', by simpa using hszr⟩
          case measure => simp [intOf]; omega
      · have e : k = n := by omega
        subst e
        clear hz hst hsz
        go_wp2_with fail
        refine (prune_any' w.heap.size k hn x size L hL _ hcp.2.1 (fun j hj => (hcp.1 j hj).2) hszr).mono ?_
        rintro e w3 ⟨rfl, hrow, hbel⟩
        have hbel3 : Below w.heap.size w w3 := hcp.2.2.trans hbel
        have hsz3 : w.heap.size < w3.heap.size := Nat.lt_of_lt_of_le hszr hbel.size
        have hle : L.length ≤ k := by rw [hL.out]; exact prn_le _ _ _
        clear hcp hbel hszr hL
        have hq2 : ∀ w', (binOp .eql 49 (.slice (some ⟨w.heap.size, 0, none⟩) L.length k) (.slice none 0 0)).run Try.prog w' = .ok (.bool false) w' := fun w' => Lib.run_eql_slice_nil w' 49 52 _ _ _ 0 0 Try.underlying49
        obtain ⟨i1, hi, hz1, hz2, hz3⟩ := info_parts Try.info50
        go_wp2_with (at_make; refine wpList_make_full _ rfl _ _ 26 rfl w3.heap.size 50 i1 (.agg #[.int .u64 0, .int .u64 0, .bool false]) 3 Try.underlying26 hi hz1 hz2 .i64 .i64 L.length L.length L.length rfl rfl rfl rfl ?b4 ?b5 ?b6 ?_)
        case b4 => rw [hz3]; omega
        case b5 => unfold maxLen; omega
        case b6 => exact Nat.le_refl _
        intro w4 hown4 hgrow4
        have hst := cp3_start L.length (fun i => L.getD i (0, 0, false)) 50 hown4 ((Below.refl _ _).grown hgrow4 (Nat.le_refl _) (by simp))
        clear hown4 hgrow4 hq2 hi hz1 hz2 hz3
        go_wp2
        go_loopw [9] (fun i wr => ∃ j : Nat, j ≤ L.length ∧ i = .int .i64 j ∧ Cp3 L.length (fun i => L.getD i (0, 0, false)) w3.heap.size w3 wr j) (fun i _ => L.length - (intOf i).toNat)
        case atStart => exact ⟨0, Nat.zero_le _, rfl, hst⟩
        case round =>
          obtain ⟨j, hj, rfl, hcp⟩ := hrel
          by_cases hlt : j < L.length
          · have hgj : L[j]? = some (L.getD j (0, 0, false)) := by rw [List.getD_eq_getElem?_getD, List.getElem?_eq_getElem hlt]; rfl
            obtain ⟨p, hp⟩ : ∃ p, p = L.getD j (0, 0, false) := ⟨_, rfl⟩
            have hcp' := (cp3_step hcp hlt).drew
            simp only [← hp] at hcp' hgj
            obtain ⟨g1, g2, g3⟩ := (hrow j p hgj).below hcp.2.2 hsz3
            obtain ⟨⟨d, d1, d2, d3⟩, f1, f2, f3⟩ := hcp.1 j hlt
            have i1 : (j : Int) < L.length := by omega
            unfold put3 at hcp'
            clear hst hrow hp hgj
            go_wp2
            go_region
            all_goals
              go_wp2
              go_roundw
              case rel => exact ⟨j + 1, by omega, by go_num, hcp'⟩
              case measure => simp [intOf]; omega
          · clear hst hrow
            go_wp2
            go_ret
            refine lsR _ _ _ rfl rfl (fun h => by cases h) (fun _ => ⟨w3.heap.size, 0, rfl, fun i p hi => ?_⟩) (hbel3.trans (hcp.2.2.mono hbel3.size))
            have hil := (List.getElem?_eq_some_iff.1 hi).1
            have h1 := hcp.2.1 i (by omega)
            simp only [List.getD_eq_getElem?_getD, hi, Option.getD_some] at h1
            rw [Nat.zero_add]
            exact h1

/-- The first loop of modelPrune: from the end backwards. -/
theorem since_skip (x : Nat → Chg) (size : Int) (k : Nat) (h : ¬ ((x k).2.2 = true ∧ (x k).1 ≤ size)) : since x size (k + 1) = since x size k := by rw [since, if_neg h]

/-- modelPrune's own test. -/
theorem keeps_iff (s : Int) (c : Chg) : keeps s c = true ↔ ¬ c.1 < s ∧ ¬ (c.2.2 = false ∧ c.1 ≤ s) := by
  obtain ⟨fr, pl, de⟩ := c
  cases de <;> simp [keeps] <;> omega

def cells3 (l : List Chg) : List Value := l.flatMap fun p => [.int .u64 p.1, .int .u64 p.2.1, .bool p.2.2]
theorem cells3_append (l m : List Chg) : cells3 (l ++ m) = cells3 l ++ cells3 m := by simp [cells3]
theorem cells3_get : ∀ (l : List Chg) (j : Nat) (p : Chg), l[j]? = some p → (cells3 l)[j * 3]? = some (.int .u64 p.1) ∧ (cells3 l)[j * 3 + 1]? = some (.int .u64 p.2.1) ∧ (cells3 l)[j * 3 + 2]? = some (.bool p.2.2)
  | [], j, p, h => by simp at h
  | q :: l, 0, p, h => by
    simp at h
    subst h
    exact ⟨rfl, rfl, rfl⟩
  | q :: l, j + 1, p, h => by
    have ih := cells3_get l j p (by simpa using h)
    have e : cells3 (q :: l) = .int .u64 q.1 :: .int .u64 q.2.1 :: .bool q.2.2 :: cells3 l := rfl
    rw [e, show (j + 1) * 3 = j * 3 + 1 + 1 + 1 by omega, show j * 3 + 1 + 1 + 1 + 1 = (j * 3 + 1) + 1 + 1 + 1 by omega, show j * 3 + 1 + 1 + 1 + 2 = (j * 3 + 2) + 1 + 1 + 1 by omega]
    simpa using ih

theorem c3_of_own {w : World} {base e g cap : Nat} {l : List Chg} (h : w.ownsRow base e 3 (.slice (some ⟨g, 0, none⟩) l.length cap) l.length (cells3 l)) {i : Nat} {p : Chg} (hp : l[i]? = some p) : C3 w g (i * 3) p := by
  have hi := (List.getElem?_eq_some_iff.1 hp).1
  have c := cells3_get l i p hp
  refine ⟨?_, ?_, ?_⟩
  · rw [h.cellAt _ (by omega)]; exact c.1
  · rw [h.cellAt _ (by omega)]; exact c.2.1
  · rw [h.cellAt _ (by omega)]; exact c.2.2

theorem news48 (wr : World) (o : Obj) (fr pl : Int) (de : Bool) : ∀ (j : Nat) (u : Value), [Value.int .u64 fr, .int .u64 pl, .bool de][j]? = some u → ((wr.alloc o).alloc (.cells #[.int .u64 fr, .int .u64 pl, .bool de] 48)).cell? ((⟨wr.heap.size + 1, 0, none⟩ : Addr).add j) = some u := by
  intro j u hj
  have e : wr.heap.size + 1 = (wr.alloc o).heap.size := by simp
  match j, hj with
  | 0, hj => simp at hj; subst hj; rw [Addr.add_lit, World.cell?_alloc_at _ _ _ _ e]; rfl
  | 1, hj => simp at hj; subst hj; rw [Addr.add_lit, World.cell?_alloc_at _ _ _ _ e]; rfl
  | 2, hj => simp at hj; subst hj; rw [Addr.add_lit, World.cell?_alloc_at _ _ _ _ e]; rfl
  | j + 3, hj => simp at hj

set_option maxRecDepth 100000 in
set_option maxHeartbeats 2000000 in
theorem modelPrune (a : Option Addr) (n c : Nat) (hn : n ≤ 32768) (h0 : a = none → n = 0) (x : Nat → Chg) (size : Int) (w : World) (hz : CA w a n x) (L : List Chg) (hL : Hid (L = prn x size n)) :
    Calls Try.prog 13 #[.slice a n c, .int .u64 size] w fun e w' => LsR a.isNone L w w' e := by
  go_enter Try.func13, Try.ntmps13
  go_wp2
  go_loop [5] (fun i => ∃ k : Nat, k ≤ n ∧ i = .int .i64 k ∧ Hid (since x size n = since x size k)) (fun i => (intOf i).toNat)
  case atStart => exact ⟨n, Nat.le_refl _, rfl, rfl⟩
  case round =>
    obtain ⟨k, hk, rfl, hh⟩ := hrel
    by_cases hpos : 0 < k
    · obtain ⟨m, rfl⟩ : ∃ m, k = m + 1 := ⟨k - 1, by omega⟩
      obtain ⟨b, o, ha, hc⟩ := hz (by omega)
      subst ha
      obtain ⟨fr, pl, de, hx⟩ : ∃ fr pl de, x m = (fr, pl, de) := ⟨_, _, _, rfl⟩
      have hcm := hc m (by omega)
      rw [hx] at hcm
      obtain ⟨g1, g2, g3⟩ := hcm
      have HX : Hid (x m = (fr, pl, de)) := hx
      clear hx
      cases de with
      | false =>
        clear hc
        go_wp2
        go_round
        case rel => exact ⟨m, by omega, by go_num, by show since x size n = _; rw [hh.out, since_skip]; rw [HX.out]; simp⟩
        case measure => simp [intOf]
      | true =>
        by_cases hs : fr ≤ size
        · have HS : Hid (since x size n = some fr) := by show since x size n = _; rw [hh.out, since, HX.out, if_pos ⟨rfl, hs⟩]
          have hl : L = fl fr x n := by rw [hL.out, prn, HS.out]
          have HL0 : Hid (L = fl fr x n) := hl
          have hcap : w.heap.size ≤ w.heap.size := Nat.le_refl _
          clear hl HS
          obtain ⟨i0, hi, hz1, hz2, hz3⟩ := info_parts Try.info48
          go_wp2_with (at_make; refine wpList_make_own _ rfl _ _ 22 rfl w.heap.size 48 i0 (.agg #[.int .u64 0, .int .u64 0, .bool false]) 3 Try.underlying22 hi hz1 hz2 .i64 .i64 n n rfl rfl rfl ?b1 ?b2 ?b3 ?_)
          case b1 => first | omega | (rw [hz3]; omega)
          case b2 => unfold maxLen; omega
          intro w2 hown2 hgrow2
          have hbel2 : Below w.heap.size w w2 := (Below.refl _ _).grown hgrow2 (Nat.le_refl _) (by simp)
          clear hgrow2 g1 g2 g3
          go_wp2
          go_loopw [7, 8] (fun v i wr => ∃ j : Nat, j ≤ n ∧ i = .int .i64 j ∧ v = .slice (some ⟨w.heap.size, 0, none⟩) (fl fr x j).length n ∧ wr.ownsRow w.heap.size 48 3 v (fl fr x j).length (cells3 (fl fr x j)) ∧ Below w.heap.size w wr) (fun _ i _ => n - (intOf i).toNat)
          case atStart => exact ⟨0, Nat.zero_le _, rfl, rfl, hown2, hbel2⟩
          case round =>
            clear hown2 hbel2
            obtain ⟨j, hj, rfl, rfl, hown, hbel⟩ := hrel
            by_cases hlt : j < n
            · obtain ⟨f2, p2, d2, hx2⟩ : ∃ f2 p2 d2, x j = (f2, p2, d2) := ⟨_, _, _, rfl⟩
              have hcj := (hc j hlt).below hbel (hc j hlt).lt
              rw [hx2] at hcj
              obtain ⟨g1, g2, g3⟩ := hcj
              have HX2 : Hid (x j = (f2, p2, d2)) := hx2
              clear hx2 hc
              have hfl := fl_le fr x j
              by_cases hb : f2 < fr
              · cases d2 with
                | true =>
                  by_cases hv : f2 ≤ fr
                  · have HL : Hid (fl fr x (j + 1) = fl fr x j) := by show fl fr x (j + 1) = _; rw [fl, if_neg (by rw [HX2.out, keeps_iff]; exact fun h => h.1 hb)]
                    have hown6 : (wr.alloc (.cells #[.int .u64 f2, .int .u64 p2, .bool true] 48)).ownsRow w.heap.size 48 3 (.slice (some ⟨w.heap.size, 0, none⟩) (fl fr x j).length n) (fl fr x (j + 1)).length (cells3 (fl fr x (j + 1))) := by
                      rw [HL.out]; exact hown.alloc _
                    have hbel5 : Below w.heap.size w (wr.alloc (.cells #[.int .u64 f2, .int .u64 p2, .bool true] 48)) := hbel.alloc hbel.size _
                    clear hown
                    go_wp2
                    go_roundw
                    case rel => exact ⟨j + 1, by omega, by go_num, by rw [HL.out], hown6, hbel5⟩
                    case measure => simp [intOf]; omega
                  · omega
                | false =>
                  by_cases hv : f2 ≤ fr
                  · have HL : Hid (fl fr x (j + 1) = fl fr x j) := by show fl fr x (j + 1) = _; rw [fl, if_neg (by rw [HX2.out, keeps_iff]; exact fun h => h.1 hb)]
                    have hown6 : (wr.alloc (.cells #[.int .u64 f2, .int .u64 p2, .bool false] 48)).ownsRow w.heap.size 48 3 (.slice (some ⟨w.heap.size, 0, none⟩) (fl fr x j).length n) (fl fr x (j + 1)).length (cells3 (fl fr x (j + 1))) := by
                      rw [HL.out]; exact hown.alloc _
                    have hbel5 : Below w.heap.size w (wr.alloc (.cells #[.int .u64 f2, .int .u64 p2, .bool false] 48)) := hbel.alloc hbel.size _
                    clear hown
                    go_wp2
                    go_roundw
                    case rel => exact ⟨j + 1, by omega, by go_num, by rw [HL.out], hown6, hbel5⟩
                    case measure => simp [intOf]; omega
                  · omega
              · have hb' : decide (f2 < fr) = false := by simpa using hb
                cases d2 with
                | true =>
                  by_cases hv : True
                  · go_wp2_with (at_builtin; refine wpList_append_fits _ rfl _ _ 22 rfl w.heap.size 48 i0 3 Try.underlying22 hi hz2 w.heap.size _ _ _ rfl ((hown.alloc _).alloc _) ⟨wr.heap.size + 1, 0, none⟩ 1 1 [.int .u64 f2, .int .u64 p2, .bool true] rfl rfl (news48 _ _ _ _ _) (one3 _ _ _) (by omega) ?_)
                    intro w5 hown5 hgrow5
                    have hbel5 : Below w.heap.size w w5 := ((hbel.alloc hbel.size _).alloc (by have := hbel.size; simp; omega) _).grown hgrow5 (by have := hbel.size; simp; omega) (by intro q hq; injection hq with hq; omega)
                    have HL : Hid (fl fr x (j + 1) = fl fr x j ++ [(f2, p2, true)]) := by show fl fr x (j + 1) = _; rw [fl, if_pos (by rw [HX2.out]; exact (keeps_iff _ _).2 ⟨(by show ¬ f2 < fr; omega), by simp⟩), HX2.out]
                    have hown6 : w5.ownsRow w.heap.size 48 3 (.slice (some ⟨w.heap.size, 0, none⟩) ((fl fr x j).length + 1) n) (fl fr x (j + 1)).length (cells3 (fl fr x (j + 1))) := by
                      rw [HL.out, cells3_append, List.length_append]; exact hown5
                    clear hown5 hgrow5 hown
                    go_wp2
                    go_roundw
                    case rel => first | exact ⟨j + 1, by omega, by go_num, by rw [HL.out, List.length_append]; rfl, hown6, hbel5⟩ | ((repeat apply Exists.intro); exact ⟨⟨j + 1, by omega, by go_num, by rw [HL.out, List.length_append]; rfl, hown6, hbel5⟩, rfl, rfl, rfl⟩)
                    case measure => simp [intOf]; omega
                  · exact absurd trivial hv
                | false =>
                  by_cases hv : f2 ≤ fr
                  · have HL : Hid (fl fr x (j + 1) = fl fr x j) := by show fl fr x (j + 1) = _; rw [fl, if_neg (by rw [HX2.out, keeps_iff]; exact fun h => h.2 ⟨rfl, hv⟩)]
                    have hown6 : (wr.alloc (.cells #[.int .u64 f2, .int .u64 p2, .bool false] 48)).ownsRow w.heap.size 48 3 (.slice (some ⟨w.heap.size, 0, none⟩) (fl fr x j).length n) (fl fr x (j + 1)).length (cells3 (fl fr x (j + 1))) := by
                      rw [HL.out]; exact hown.alloc _
                    have hbel5 : Below w.heap.size w (wr.alloc (.cells #[.int .u64 f2, .int .u64 p2, .bool false] 48)) := hbel.alloc hbel.size _
                    clear hown
                    go_wp2
                    go_roundw
                    case rel => exact ⟨j + 1, by omega, by go_num, by rw [HL.out], hown6, hbel5⟩
                    case measure => simp [intOf]; omega
                  · have hv' : decide (f2 ≤ fr) = false := by simpa using hv
                    go_wp2_with (at_builtin; refine wpList_append_fits _ rfl _ _ 22 rfl w.heap.size 48 i0 3 Try.underlying22 hi hz2 w.heap.size _ _ _ rfl ((hown.alloc _).alloc _) ⟨wr.heap.size + 1, 0, none⟩ 1 1 [.int .u64 f2, .int .u64 p2, .bool false] rfl rfl (news48 _ _ _ _ _) (one3 _ _ _) (by omega) ?_)
                    intro w5 hown5 hgrow5
                    have hbel5 : Below w.heap.size w w5 := ((hbel.alloc hbel.size _).alloc (by have := hbel.size; simp; omega) _).grown hgrow5 (by have := hbel.size; simp; omega) (by intro q hq; injection hq with hq; omega)
                    have HL : Hid (fl fr x (j + 1) = fl fr x j ++ [(f2, p2, false)]) := by show fl fr x (j + 1) = _; rw [fl, if_pos (by rw [HX2.out]; exact (keeps_iff _ _).2 ⟨(by show ¬ f2 < fr; omega), fun h => absurd h.2 (by show ¬ f2 ≤ fr; omega)⟩), HX2.out]
                    have hown6 : w5.ownsRow w.heap.size 48 3 (.slice (some ⟨w.heap.size, 0, none⟩) ((fl fr x j).length + 1) n) (fl fr x (j + 1)).length (cells3 (fl fr x (j + 1))) := by
                      rw [HL.out, cells3_append, List.length_append]; exact hown5
                    clear hown5 hgrow5 hown
                    go_wp2
                    go_roundw
                    case rel => first | exact ⟨j + 1, by omega, by go_num, by rw [HL.out, List.length_append]; rfl, hown6, hbel5⟩ | ((repeat apply Exists.intro); exact ⟨⟨j + 1, by omega, by go_num, by rw [HL.out, List.length_append]; rfl, hown6, hbel5⟩, rfl, rfl, rfl⟩)
                    case measure => simp [intOf]; omega
            · have e : j = n := by omega
              subst e
              clear hc
              go_wp2
              go_ret
              rw [← HL0.out] at hown
              refine lsR _ _ _ (by rw [HL0.out]) rfl (fun h => by cases h) (fun _ => ⟨w.heap.size, 0, rfl, fun i p hi => ?_⟩) hbel
              rw [Nat.zero_add]
              exact c3_of_own hown hi
        · have hs' : decide (fr ≤ size) = false := by simpa using hs
          clear hc
          go_wp2
          go_round
          case rel => exact ⟨m, by omega, by go_num, by show since x size n = _; rw [hh.out, since_skip]; rw [HX.out]; simpa using hs⟩
          case measure => simp [intOf]
    · have e : k = 0 := by omega
      subst e
      have HS : Hid (since x size n = none) := hh.out
      have hl : L = (List.range n).map x := by rw [hL.out, prn, HS.out]
      have hcl := CL.of hz
      rw [← hl] at hcl
      have hln : n = L.length := by rw [hl]; simp
      have HLN : Hid (n = L.length) := hln
      clear hz hl hln
      go_wp2
      go_ret
      exact lsR _ _ _ HLN.out rfl (fun h => by rw [← HLN.out]; exact h0 h) hcl (Below.refl _ _)
end Go.Proofs.Qxb6601691a
