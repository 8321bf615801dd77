import Derived.Test.Qxb6601691aPrune2
namespace Go.Proofs.Qxb6601691a
open Go.RowKit

/-- The state of pruneChanges' second loop: the kept ones lie at the head of block g, the others from k on as they were. -/
def PR (n : Nat) (x : Nat → Chg) (s : Int) (g : Nat) (w wr : World) (k : Nat) : Prop :=
  (∀ (j : Nat) (p : Chg), (fl s x k)[j]? = some p → C3 wr g (j * 3) p) ∧ (∀ j, k ≤ j → j < n → C3 wr g (j * 3) (x j)) ∧
  (∀ j, j < n → (∃ c, C3 wr g (j * 3) c) ∧ F3 wr g (j * 3)) ∧ Below g w wr ∧ g < wr.heap.size

theorem C3.alloc {w : World} {b o : Nat} {c : Chg} (h : C3 w b o c) (ob : Obj) : C3 (w.alloc ob) b o c := h.below ((Below.refl w.heap.size w).alloc (Nat.le_refl _) ob) h.lt
theorem F3.alloc {w : World} {b o : Nat} (h : F3 w b o) (hb : b < w.heap.size) (ob : Obj) : F3 (w.alloc ob) b o := h.below ((Below.refl w.heap.size w).alloc (Nat.le_refl _) ob) hb

theorem PR.alloc {n : Nat} {x : Nat → Chg} {s : Int} {g : Nat} {w wr : World} {k : Nat} (h : PR n x s g w wr k) (ob : Obj) : PR n x s g w (wr.alloc ob) k := by
  obtain ⟨h1, h2, h3, h4, h5⟩ := h
  exact ⟨fun j p hj => (h1 j p hj).alloc ob, fun j a b => (h2 j a b).alloc ob, fun j hj => ⟨by obtain ⟨c, hc⟩ := (h3 j hj).1; exact ⟨c, hc.alloc ob⟩, (h3 j hj).2.alloc h5 ob⟩, h4.alloc (by omega) ob, by simp; omega⟩

theorem PR.drop {n : Nat} {x : Nat → Chg} {s : Int} {g : Nat} {w wr : World} {k : Nat} (h : PR n x s g w wr k) (hk : ¬ keeps s (x k) = true) : PR n x s g w wr (k + 1) := by
  obtain ⟨h1, h2, h3, h4, h5⟩ := h
  exact ⟨by rw [fl, if_neg hk]; exact h1, fun j a b => h2 j (by omega) b, h3, h4, h5⟩

theorem PR.keep {n : Nat} {x : Nat → Chg} {s : Int} {g : Nat} {w wr : World} {k : Nat} (h : PR n x s g w wr k) (hn : k < n) (hk : keeps s (x k) = true) : PR n x s g w (put3 wr g ((fl s x k).length * 3) (x k)) (k + 1) := by
  obtain ⟨h1, h2, h3, h4, h5⟩ := h
  have hl := fl_le s x k
  obtain ⟨⟨d, hd⟩, -⟩ := h3 (fl s x k).length (by omega)
  refine ⟨fun j p hj => ?_, fun j a b => put3_other (h2 j (by omega) b) fun _ => by omega, fun j hj => ⟨?_, put3_frozen (h3 j hj).2⟩, put3_below h4 (Nat.le_refl _), by simpa [put3] using h5⟩
  · rw [fl, if_pos hk, List.getElem?_append] at hj
    split at hj
    · rename_i hlt
      exact put3_other (h1 j p hj) fun _ => by omega
    · rename_i hge
      have e : j - (fl s x k).length = 0 := by
        have := (List.getElem?_eq_some_iff.1 hj).1
        simp at this
        omega
      rw [e] at hj
      simp at hj
      subst hj
      rw [show j = (fl s x k).length by omega]
      exact put3_same hd
  · by_cases e : j = (fl s x k).length
    · rw [e]; exact ⟨_, put3_same hd⟩
    · obtain ⟨c, hc⟩ := (h3 j hj).1
      exact ⟨c, put3_other hc fun _ => by omega⟩

theorem put3_eq (w : World) (b o : Nat) (c : Chg) : w.setCells b o [.int .u64 c.1, .int .u64 c.2.1, .bool c.2.2] = put3 w b o c := rfl

theorem PR.keep' {n : Nat} {x : Nat → Chg} {s : Int} {g : Nat} {w wr : World} {k : Nat} {fr pl : Int} {de : Bool} (h : PR n x s g w wr k) (hn : k < n) (hk : keeps s (fr, pl, de) = true) (hx : x k = (fr, pl, de)) :
    PR n x s g w (wr.setCells g ((fl s x k).length * 3) [.int .u64 fr, .int .u64 pl, .bool de]) (k + 1) := by
  have := PR.keep h hn (by rw [hx]; exact hk)
  rw [hx] at this
  exact this

theorem news3 (wr : World) (o : Obj) (fr pl : Int) (de : Bool) : ∀ (j : Nat) (u : Value), [Value.int .u64 fr, .int .u64 pl, .bool de][j]? = some u → ((wr.alloc o).alloc (.cells #[.int .u64 fr, .int .u64 pl, .bool de] 52)).cell? ((⟨wr.heap.size + 1, 0, none⟩ : Addr).add j) = some u := by
  intro j u hj
  have e : wr.heap.size + 1 = (wr.alloc o).heap.size := by simp
  match j, hj with
  | 0, hj => simp at hj; subst hj; rw [Addr.add_lit, World.cell?_alloc_at _ _ _ _ e]; rfl
  | 1, hj => simp at hj; subst hj; rw [Addr.add_lit, World.cell?_alloc_at _ _ _ _ e]; rfl
  | 2, hj => simp at hj; subst hj; rw [Addr.add_lit, World.cell?_alloc_at _ _ _ _ e]; rfl
  | j + 3, hj => simp at hj

theorem one3 (fr pl : Int) (de : Bool) : ∀ u ∈ [Value.int .u64 fr, .int .u64 pl, .bool de], u.oneCell' = true := by
  intro u hu; simp at hu; rcases hu with rfl | rfl | rfl <;> rfl

theorem spare3 {n : Nat} {x : Nat → Chg} {s : Int} {g : Nat} {w wr : World} {k : Nat} (h : PR n x s g w wr k) {m : Nat} (hm : m < n) (o1 o2 : Obj) {a b c : Value} : ∀ j, j < [a, b, c].length →
    (((wr.alloc o1).alloc o2).cell? ⟨g, 0 + m * 3 + j, none⟩).isSome = true ∧ ((wr.alloc o1).alloc o2).frozen? ⟨g, 0 + m * 3 + j, none⟩ = false := by
  intro j hj
  obtain ⟨⟨d, hd⟩, hf⟩ := ((h.alloc o1).alloc o2).2.2.1 m hm
  rw [Nat.zero_add]
  match j, hj with
  | 0, _ => exact ⟨by rw [Nat.add_zero, hd.1]; rfl, hf.1⟩
  | 1, _ => exact ⟨by rw [hd.2.1]; rfl, hf.2.1⟩
  | 2, _ => exact ⟨by rw [hd.2.2]; rfl, hf.2.2⟩
  | j + 3, hj => simp at hj; omega

set_option maxRecDepth 100000 in
set_option maxHeartbeats 2000000 in
theorem prune_any (g n : Nat) (hn : n ≤ 32768) (x : Nat → Chg) (size : Int) (w : World) (hrow : ∀ j, j < n → C3 w g (j * 3) (x j)) (hfr : ∀ j, j < n → F3 w g (j * 3)) (hg : g < w.heap.size) :
    Calls Try.prog 27 #[.slice (some ⟨g, 0, none⟩) n n, .int .u64 size] w fun e w' =>
      match since x size n with
      | none => e = .returned (.slice (some ⟨g, 0, none⟩) n n) ∧ (∀ j, j < n → C3 w' g (j * 3) (x j)) ∧ Below g w w'
      | some s => e = .returned (.slice (some ⟨g, 0, none⟩) (fl s x n).length n) ∧ (∀ (j : Nat) (p : Chg), (fl s x n)[j]? = some p → C3 w' g (j * 3) p) ∧ Below g w w' := by
  obtain ⟨i0, hi, hz1, hz2, hz3⟩ := info_parts Try.info52
  obtain ⟨R, hR⟩ : ∃ R : Option Int → Ending → World → Prop, R = fun o e w' => match o with
      | none => e = .returned (.slice (some ⟨g, 0, none⟩) n n) ∧ (∀ j, j < n → C3 w' g (j * 3) (x j)) ∧ Below g w w'
      | some s => e = .returned (.slice (some ⟨g, 0, none⟩) (fl s x n).length n) ∧ (∀ (j : Nat) (p : Chg), (fl s x n)[j]? = some p → C3 w' g (j * 3) p) ∧ Below g w w' := ⟨_, rfl⟩
  suffices h : Calls Try.prog 27 #[.slice (some ⟨g, 0, none⟩) n n, .int .u64 size] w fun e w' => R (since x size n) e w' by subst hR; exact h
  have HR : Hid _ := hR
  clear hR
  go_enter Try.func27, Try.ntmps27
  go_wp2
  go_loopw [5, 6, 14] (fun t f i wr => ∃ k : Nat, k ≤ n ∧ i = .int .i64 k ∧ f = .bool (since x size k).isSome ∧ t = .int .u64 ((since x size k).getD 0) ∧ Below w.heap.size w wr) (fun _ _ i _ => n - (intOf i).toNat)
  case atStart => exact ⟨0, Nat.zero_le _, rfl, rfl, rfl, Below.refl _ _⟩
  case round =>
    obtain ⟨k, hk, rfl, rfl, rfl, hbel⟩ := hrel
    by_cases hlt : k < n
    · obtain ⟨g1, g2, g3⟩ := (hrow k hlt).below hbel (hrow k hlt).lt
      by_cases hd : (x k).2.2 = true
      · by_cases hs : (x k).1 ≤ size
        · clear hrow hfr
          go_wp2
          go_roundw
          case rel => exact ⟨k + 1, by omega, by go_num, by rw [since, if_pos ⟨‹_›, hs⟩]; rfl, by rw [since, if_pos ⟨‹_›, hs⟩]; rfl, hbel.alloc hbel.size _⟩
          case measure => simp [intOf]; omega
        · clear hrow hfr
          have hs' : decide ((x k).1 ≤ size) = false := by simpa using hs
          go_wp2
          go_roundw
          case rel => exact ⟨k + 1, by omega, by go_num, by rw [since, if_neg (fun h => hs h.2)], by rw [since, if_neg (fun h => hs h.2)], hbel.alloc hbel.size _⟩
          case measure => simp [intOf]; omega
      · have hd' : (x k).2.2 = false := by simpa using hd
        clear hrow hfr
        go_wp2
        go_roundw
        case rel => exact ⟨k + 1, by omega, by go_num, by rw [since, if_neg (fun h => hd h.1)], by rw [since, if_neg (fun h => hd h.1)], hbel.alloc hbel.size _⟩
        case measure => simp [intOf]; omega
    · have e : k = n := by omega
      subst e
      have hrow' : ∀ j, j < k → C3 wr g (j * 3) (x j) := fun j hj => (hrow j hj).below hbel (hrow j hj).lt
      have hfr' : ∀ j, j < k → F3 wr g (j * 3) := fun j hj => (hfr j hj).below hbel hg
      have hst : ∀ s, PR k x s g w wr 0 := fun s => ⟨fun j p hj => by simp [fl] at hj, fun j _ hj => hrow' j hj, fun j hj => ⟨⟨_, hrow' j hj⟩, hfr' j hj⟩, hbel.mono (by omega), by have := hbel.size; omega⟩
      clear hrow hfr hfr'
      rcases Option.eq_none_or_eq_some (since x size k) with hsn | ⟨s, hsn⟩
      · have hbg : Below g w wr := hbel.mono (by omega)
        have hf : (since x size k).isSome = false := by rw [hsn]; rfl
        have HS : Hid (since x size k = none) := hsn
        clear hst hsn
        go_wp2
        rw [HR.out, HS.out]
        exact ⟨rfl, hrow', hbg⟩
      · have hst1 := hst s
        have hf : (since x size k).isSome = true := by rw [hsn]; rfl
        have ht : (since x size k).getD 0 = s := by rw [hsn]; rfl
        have HS : Hid (since x size k = some s) := hsn
        clear hrow' hbel hsn hst
        go_wp2
        clear hf
        go_loopw [9, 36] (fun v i wr => ∃ j : Nat, j ≤ k ∧ i = .int .i64 j ∧ v = .slice (some ⟨g, 0, none⟩) (fl s x j).length k ∧ PR k x s g w wr j) (fun _ i _ => k - (intOf i).toNat)
        case atStart => exact ⟨0, Nat.zero_le _, rfl, rfl, hst1⟩
        case round =>
          clear hst1
          obtain ⟨j, hj, rfl, rfl, hpr⟩ := hrel
          by_cases hlt : j < k
          · have hc := hpr.2.1 j (Nat.le_refl _) hlt
            obtain ⟨fr, pl, de, hx⟩ : ∃ fr pl de, x j = (fr, pl, de) := ⟨_, _, _, rfl⟩
            rw [hx] at hc
            obtain ⟨g1, g2, g3⟩ := hc
            have HX : Hid (x j = (fr, pl, de)) := hx
            clear hx
            have hl := fl_le s x j
            obtain ⟨-, ff1, ff2, ff3⟩ := hpr.2.2.1 (fl s x j).length (by omega)
            cases de with
            | true =>
              by_cases hgt : s < fr
              · go_wp2_with (at_builtin; refine wpList_append_cells _ rfl _ _ 49 rfl 52 i0 3 Try.underlying49 hi hz2 g 0 _ _ rfl ⟨wr.heap.size + 1, 0, none⟩ 1 1 [.int .u64 fr, .int .u64 pl, .bool true] rfl rfl (news3 _ _ _ _ _) (one3 _ _ _) (by omega) (spare3 hpr (by omega) _ _) ?_)
                · have hk' := PR.keep' ((hpr.alloc (.cells #[.int .u64 fr, .int .u64 pl, .bool true] 52)).alloc (.cells #[.int .u64 fr, .int .u64 pl, .bool true] 52)) hlt (by simp [keeps, hgt]) HX.out
                  have HL : Hid ((fl s x (j + 1)).length = (fl s x j).length + 1) := by show (fl s x (j + 1)).length = _; rw [fl, if_pos (by rw [HX.out]; exact (by simp [keeps, hgt])), List.length_append]; rfl
                  go_wp2
                  go_roundw
                  case rel => first | exact ⟨j + 1, by omega, by go_num, by rw [HL.out], hk'⟩ | ((repeat apply Exists.intro); exact ⟨⟨j + 1, by omega, by go_num, by rw [HL.out], hk'⟩, rfl, rfl, rfl⟩)
                  case measure => simp [intOf]; omega
              · have hgt' : decide (s < fr) = false := by simpa using hgt
                by_cases heq : fr = s
                · have heq' : (fr == s) = true := by simpa using heq
                  have HQ : Hid (fr = s) := heq
                  clear heq
                  go_wp2_with (at_builtin; refine wpList_append_cells _ rfl _ _ 49 rfl 52 i0 3 Try.underlying49 hi hz2 g 0 _ _ rfl ⟨wr.heap.size + 1, 0, none⟩ 1 1 [.int .u64 fr, .int .u64 pl, .bool true] rfl rfl (news3 _ _ _ _ _) (one3 _ _ _) (by omega) (spare3 hpr (by omega) _ _) ?_)
                  · have hk' := PR.keep' ((hpr.alloc (.cells #[.int .u64 fr, .int .u64 pl, .bool true] 52)).alloc (.cells #[.int .u64 fr, .int .u64 pl, .bool true] 52)) hlt (by simp [keeps, HQ.out]) HX.out
                    have HL : Hid ((fl s x (j + 1)).length = (fl s x j).length + 1) := by show (fl s x (j + 1)).length = _; rw [fl, if_pos (by rw [HX.out]; exact (by simp [keeps, HQ.out])), List.length_append]; rfl
                    go_wp2
                    go_roundw
                    case rel => first | exact ⟨j + 1, by omega, by go_num, by rw [HL.out], hk'⟩ | ((repeat apply Exists.intro); exact ⟨⟨j + 1, by omega, by go_num, by rw [HL.out], hk'⟩, rfl, rfl, rfl⟩)
                    case measure => simp [intOf]; omega
                · have heq' : (fr == s) = false := by simpa using heq
                  have hdr := (hpr.alloc (.cells #[.int .u64 fr, .int .u64 pl, .bool true] 52)).drop (by rw [HX.out]; simp [keeps, hgt, heq])
                  have HL : Hid ((fl s x (j + 1)).length = (fl s x j).length) := by show (fl s x (j + 1)).length = _; rw [fl, if_neg (by rw [HX.out]; simp [keeps, hgt, heq])]
                  go_wp2
                  go_roundw
                  case rel => exact ⟨j + 1, by omega, by go_num, by rw [HL.out], hdr⟩
                  case measure => simp [intOf]; omega
            | false =>
              by_cases hgt : s < fr
              · go_wp2_with (at_builtin; refine wpList_append_cells _ rfl _ _ 49 rfl 52 i0 3 Try.underlying49 hi hz2 g 0 _ _ rfl ⟨wr.heap.size + 1, 0, none⟩ 1 1 [.int .u64 fr, .int .u64 pl, .bool false] rfl rfl (news3 _ _ _ _ _) (one3 _ _ _) (by omega) (spare3 hpr (by omega) _ _) ?_)
                · have hk' := PR.keep' ((hpr.alloc (.cells #[.int .u64 fr, .int .u64 pl, .bool false] 52)).alloc (.cells #[.int .u64 fr, .int .u64 pl, .bool false] 52)) hlt (by simp [keeps, hgt]) HX.out
                  have HL : Hid ((fl s x (j + 1)).length = (fl s x j).length + 1) := by show (fl s x (j + 1)).length = _; rw [fl, if_pos (by rw [HX.out]; exact (by simp [keeps, hgt])), List.length_append]; rfl
                  go_wp2
                  go_roundw
                  case rel => first | exact ⟨j + 1, by omega, by go_num, by rw [HL.out], hk'⟩ | ((repeat apply Exists.intro); exact ⟨⟨j + 1, by omega, by go_num, by rw [HL.out], hk'⟩, rfl, rfl, rfl⟩)
                  case measure => simp [intOf]; omega
              · have hgt' : decide (s < fr) = false := by simpa using hgt
                have hdr := (hpr.alloc (.cells #[.int .u64 fr, .int .u64 pl, .bool false] 52)).drop (by rw [HX.out]; simp [keeps, hgt])
                have HL : Hid ((fl s x (j + 1)).length = (fl s x j).length) := by show (fl s x (j + 1)).length = _; rw [fl, if_neg (by rw [HX.out]; simp [keeps, hgt])]
                go_wp2
                go_roundw
                case rel => exact ⟨j + 1, by omega, by go_num, by rw [HL.out], hdr⟩
                case measure => simp [intOf]; omega
          · have e : j = k := by omega
            subst e
            go_wp2
            rw [HR.out, HS.out]
            exact ⟨rfl, hpr.1, hpr.2.2.2.1⟩
end Go.Proofs.Qxb6601691a
