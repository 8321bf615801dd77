import Derived.Test.Qxb6601531aPut
namespace Go.Proofs.Qxb6601531a
open Go.RowKit

theorem cellO {w : World} {b o b' o' : Nat} {v : Value} (h : b = b' → o ≠ o') : (w.setCell ⟨b, o, none⟩ v).cell? ⟨b', o', none⟩ = w.cell? ⟨b', o', none⟩ :=
  World.cell?_setCell_other _ _ _ _ (by intro e; injection e with e1 e2; exact h e1 e2)

/-- From w to w' only the cells lo1 .. hi1 of block b1 and lo2 .. hi2 of block b2 may have turned. -/
structure Wr (w w' : World) (B b1 lo1 hi1 b2 lo2 hi2 : Nat) : Prop where
  bel : Below B w w'
  size : w'.heap.size = w.heap.size
  keep : ∀ b x, (b = b1 → x < lo1 ∨ hi1 ≤ x) → (b = b2 → x < lo2 ∨ hi2 ≤ x) → w'.cell? ⟨b, x, none⟩ = w.cell? ⟨b, x, none⟩
  fr : ∀ a, w'.frozen? a = w.frozen? a

/-- The state of putEntries' loop: x entries are laid. -/
structure PE (w w' : World) (B b1 p1 b2 p2 x : Nat) (f : Nat → ByteArray) (g : Nat → Int) : Prop where
  wr : Wr w w' B b1 p1 (p1 + x) b2 p2 (p2 + x)
  s : ∀ i, i < x → w'.cell? ⟨b1, p1 + i, none⟩ = some (.string (f i))
  u : ∀ i, i < x → w'.cell? ⟨b2, p2 + i, none⟩ = some (.int .u64 (g i))

theorem pe_start (w : World) (B b1 p1 b2 p2 : Nat) (f : Nat → ByteArray) (g : Nat → Int) : PE w w B b1 p1 b2 p2 0 f g :=
  ⟨⟨Below.refl _ _, rfl, fun _ _ _ _ => rfl, fun _ => rfl⟩, fun i hi => by omega, fun i hi => by omega⟩

theorem PE.drewN {w w' : World} {B b1 p1 b2 p2 x : Nat} {f : Nat → ByteArray} {g : Nat → Int} (h : PE w w' B b1 p1 b2 p2 x f g) (m : Nat) : PE w (w'.drewN m) B b1 p1 b2 p2 x f g :=
  ⟨⟨⟨h.wr.bel.os, h.wr.bel.tape, h.wr.bel.output, h.wr.bel.size, h.wr.bel.block⟩, h.wr.size, h.wr.keep, h.wr.fr⟩, h.s, h.u⟩

theorem pe_step {w w' : World} {B b1 p1 b2 p2 x q : Nat} {f : Nat → ByteArray} {g : Nat → Int} (h : PE w w' B b1 p1 b2 p2 x f g) (hx : x < q) (hb1 : B ≤ b1) (hb2 : B ≤ b2) (hap : b1 = b2 → p1 + q ≤ p2)
    {v1 v2 : Value} (h1 : w'.cell? ⟨b1, p1 + x, none⟩ = some v1) (h2 : w'.cell? ⟨b2, p2 + x, none⟩ = some v2) :
    PE w ((w'.setCell ⟨b1, p1 + x, none⟩ (.string (f x))).setCell ⟨b2, p2 + x, none⟩ (.int .u64 (g x))) B b1 p1 b2 p2 (x + 1) f g where
  wr := ⟨(h.wr.bel.setCell (p := ⟨b1, p1 + x, none⟩) hb1 _).setCell (p := ⟨b2, p2 + x, none⟩) hb2 _, by simpa using h.wr.size,
    fun b y k1 k2 => by
      rw [cellO (by intro e; have := k2 e.symm; omega), cellO (by intro e; have := k1 e.symm; omega)]
      exact h.wr.keep b y (fun e => by have := k1 e; omega) (fun e => by have := k2 e; omega),
    fun a => by rw [World.frozen?_setCell, World.frozen?_setCell]; exact h.wr.fr a⟩
  s := fun i hi => by
    rw [cellO (by intro e; have := hap e.symm; omega)]
    by_cases e : i = x
    · subst e; exact World.cell?_setCell_same _ _ _ h1
    · rw [cellO (by omega)]; exact h.s i (by omega)
  u := fun i hi => by
    by_cases e : i = x
    · subst e; exact World.cell?_setCell_same _ _ _ ((cellO (by intro e; have := hap e; omega)).trans h2)
    · rw [cellO (by omega), cellO (by intro e; have := hap e; omega)]; exact h.u i (by omega)

theorem setCells_below {B : Nat} (b : Nat) (hB : B ≤ b) : ∀ (vs : List Value) (o : Nat) (w : World), Below B w (w.setCells b o vs) ∧ (w.setCells b o vs).heap.size = w.heap.size
  | [], o, w => ⟨Below.refl _ _, rfl⟩
  | v :: vs, o, w => by
    have ih := setCells_below b hB vs (o + 1) (w.setCell ⟨b, o, none⟩ v)
    exact ⟨((Below.refl _ _).setCell (p := ⟨b, o, none⟩) hB v).trans ih.1, by rw [World.setCells, ih.2]; simp⟩

theorem pe_copy {w : World} {B b1 p1 b2 p2 q : Nat} {f : Nat → ByteArray} {g : Nat → Int} (hb1 : B ≤ b1) (hb2 : B ≤ b2) (hap : b1 = b2 → p1 + q ≤ p2)
    (h1 : ∀ i, i < q → (w.cell? ⟨b1, p1 + i, none⟩).isSome = true) (h2 : ∀ i, i < q → (w.cell? ⟨b2, p2 + i, none⟩).isSome = true) :
    PE w ((w.setCells b1 p1 (ss f q)).setCells b2 p2 (us g q)) B b1 p1 b2 p2 q f g where
  wr := ⟨(setCells_below b1 hb1 (ss f q) p1 w).1.trans (setCells_below b2 hb2 (us g q) p2 _).1, by rw [(setCells_below b2 hb2 (us g q) p2 _).2, (setCells_below b1 hb1 (ss f q) p1 w).2],
    fun b y k1 k2 => by
      rw [World.cell?_setCells_out b2 (us g q) p2 _ _ (fun e _ => by rw [us_length]; exact k2 e), World.cell?_setCells_out b1 (ss f q) p1 _ _ (fun e _ => by rw [ss_length]; exact k1 e)],
    fun a => by rw [World.frozen?_setCells, World.frozen?_setCells]⟩
  s := fun i hi => by
    rw [World.cell?_setCells_out b2 (us g q) p2 _ _ (fun e _ => by rw [us_length]; have := hap e; show p1 + i < p2 ∨ _; omega),
      World.cell?_setCells_in b1 (ss f q) p1 w (fun j hj => h1 j (by rwa [ss_length] at hj)) i (by rw [ss_length]; exact hi)]
    simp [ss]
  u := fun i hi => by
    rw [World.cell?_setCells_in b2 (us g q) p2 _ (fun j hj => by
      rw [us_length] at hj
      rw [World.cell?_setCells_out b1 (ss f q) p1 w _ (fun e _ => by rw [ss_length]; have := hap e.symm; show p2 + j < p1 ∨ p1 + q ≤ p2 + j; omega)]
      exact h2 j hj) i (by rw [us_length]; exact hi)]
    simp [us]

set_option maxRecDepth 100000 in
set_option maxHeartbeats 2000000 in
theorem putEntries (b1 o1 C1 b2 o2 C2 L k q c1 c2 B : Nat) (hC1 : L ≤ C1) (hC2 : L ≤ C2) (hLm : L ≤ 1048576) (hkq : k + q ≤ L) (hc2 : q ≤ c2) (a1 a2 : Option Addr) (f : Nat → ByteArray) (g : Nat → Int) (w : World)
    (hs1 : 0 < q → ∃ bs os, a1 = some ⟨bs, os, none⟩ ∧ bs < B ∧ ∀ i, i < q → w.cell? ⟨bs, os + i, none⟩ = some (.string (f i)))
    (hs2 : 0 < q → ∃ bs os, a2 = some ⟨bs, os, none⟩ ∧ bs < B ∧ ∀ i, i < q → w.cell? ⟨bs, os + i, none⟩ = some (.int .u64 (g i)))
    (hb1 : B ≤ b1) (hb2 : B ≤ b2) (hap : b1 = b2 → o1 + L ≤ o2)
    (hd1 : ∀ i, i < L → (w.cell? ⟨b1, o1 + i, none⟩).isSome = true) (hd2 : ∀ i, i < L → (w.cell? ⟨b2, o2 + i, none⟩).isSome = true)
    (hf1 : ∀ i, i < L → w.frozen? ⟨b1, o1 + i, none⟩ = false) (hf2 : ∀ i, i < L → w.frozen? ⟨b2, o2 + i, none⟩ = false) :
    Calls Try.prog 36 #[.slice (some ⟨b1, o1, none⟩) L C1, .slice (some ⟨b2, o2, none⟩) L C2, .int .i64 k, .slice a1 q c1, .slice a2 q c2] w fun e w' => e = .returned (.int .i64 ((k : Int) + q)) ∧ PE w w' B b1 (o1 + k) b2 (o2 + k) q f g := by
  by_cases hq : 16 < q
  · have hul := us_length g q
    have hsl := ss_length f q
    obtain ⟨x1, y1, ha1, hx1, e1⟩ := hs1 (by omega)
    obtain ⟨x2, y2, ha2, hx2, e2⟩ := hs2 (by omega)
    subst ha1
    subst ha2
    have hcp := pe_copy (w := w) (B := B) (b1 := b1) (p1 := o1 + k) (b2 := b2) (p2 := o2 + k) (q := q) (f := f) (g := g) hb1 hb2 (fun e => by have := hap e; omega) (fun i hi => by rw [Nat.add_assoc]; exact hd1 _ (by omega)) (fun i hi => by rw [Nat.add_assoc]; exact hd2 _ (by omega))
    have hb := setCells_below b1 hb1 (ss f q) (o1 + k) w
    go_enter Try.func36, Try.ntmps36
    go_wp2_with (first | (refine wpList_copy_cells rfl (.tmp 19) (.tmp 20) 22 22 rfl 9 Try.underlying22 size9 _ _ _ _ _ _ rfl rfl b1 (o1 + k) (ss f q) ?_ ?_ ?_ ?_ ss_one ?_) | (refine wpList_copy_cells rfl (.tmp 25) (.tmp 26) 23 23 rfl 26 Try.underlying23 size26 _ _ _ _ _ _ rfl rfl b2 (o2 + k) (us g q) ?_ ?_ ?_ ?_ us_one ?_))
    · rw [ss_length]; show q = min q (L - k); omega
    · intro _ j v hj
      obtain ⟨hj', rfl⟩ := ss_get hj
      exact e1 j hj'
    · intro j hj; rw [ss_length] at hj; rw [Nat.add_assoc]; exact hd1 (k + j) (by omega)
    · intro j hj; rw [ss_length] at hj; rw [Nat.add_assoc]; exact hf1 (k + j) (by omega)
    · rw [us_length]; show q = min q (L - k); omega
    · intro _ j v hj
      obtain ⟨hj', rfl⟩ := us_get hj
      exact (hb.1.cell (p := ⟨x2, y2 + j, none⟩) hx2).trans (e2 j hj')
    · intro j hj
      rw [us_length] at hj
      rw [World.cell?_setCells_out b1 (ss f q) (o1 + k) w _ (fun e _ => by rw [ss_length]; have := hap e.symm; show o2 + k + j < o1 + k ∨ o1 + k + q ≤ o2 + k + j; omega), Nat.add_assoc]
      exact hd2 (k + j) (by omega)
    · intro j hj; rw [us_length] at hj; rw [World.frozen?_setCells, Nat.add_assoc]; exact hf2 (k + j) (by omega)
    · go_ret
      exact ⟨rfl, hcp⟩
  · by_cases hq0 : q = 0
    · subst hq0
      have hst := pe_start w B b1 (o1 + k) b2 (o2 + k) f g
      clear hs1 hs2 hd1 hd2 hf1 hf2
      have i1 : (k : Int) ≤ L := by omega
      have i2 : (L : Int) ≤ C1 := by omega
      have i3 : (L : Int) ≤ C2 := by omega
      have i4 : (0 : Int) ≤ c2 := by omega
      go_enter Try.func36, Try.ntmps36
      go_wp2
      go_quiet (fail)
      go_wp2
      all_goals
        refine wp_loop_rounds 1 ?_
        rw [rounds_succ]
        go_wp2
        go_ret
        exact ⟨rfl, hst.drewN _⟩
    · obtain ⟨x1, y1, ha1, hx1, e1⟩ := hs1 (by omega)
      obtain ⟨x2, y2, ha2, hx2, e2⟩ := hs2 (by omega)
      subst ha1
      subst ha2
      clear hs1 hs2
      have hst := pe_start w B b1 (o1 + k) b2 (o2 + k) f g
      have i1 : (k : Int) ≤ L := by omega
      have i2 : (L : Int) ≤ C1 := by omega
      have i3 : (L : Int) ≤ C2 := by omega
      have i4 : (q : Int) ≤ c2 := by omega
      have n1 : ¬ C1 = k := by omega
      have n2 : ¬ C2 = k := by omega
      go_enter Try.func36, Try.ntmps36
      go_wp2
      go_quiet (fail)
      go_wp2
      go_loopw [47] (fun i wr => ∃ x : Nat, x ≤ q ∧ i = .int .i64 x ∧ PE w wr B b1 (o1 + k) b2 (o2 + k) x f g) (fun i _ => q - (intOf i).toNat)
      case atStart => exact ⟨0, Nat.zero_le _, rfl, hst.drewN _⟩
      case round =>
        clear hst
        obtain ⟨x, hx, rfl, hpe⟩ := hrel
        by_cases hlt : x < q
        · have g1 : wr.cell? ⟨x1, y1 + x, none⟩ = some (.string (f x)) := (hpe.wr.bel.cell (p := ⟨x1, y1 + x, none⟩) hx1).trans (e1 x hlt)
          have g2 : wr.cell? ⟨x2, y2 + x, none⟩ = some (.int .u64 (g x)) := (hpe.wr.bel.cell (p := ⟨x2, y2 + x, none⟩) hx2).trans (e2 x hlt)
          obtain ⟨v1, g3⟩ : ∃ v, wr.cell? ⟨b1, o1 + k + x, none⟩ = some v := by
            rw [hpe.wr.keep b1 (o1 + k + x) (fun _ => by omega) (fun e => by have := hap e; omega), Nat.add_assoc]
            exact Option.isSome_iff_exists.1 (hd1 (k + x) (by omega))
          obtain ⟨v2, g4⟩ : ∃ v, wr.cell? ⟨b2, o2 + k + x, none⟩ = some v := by
            rw [hpe.wr.keep b2 (o2 + k + x) (fun e => by have := hap e.symm; omega) (fun _ => by omega), Nat.add_assoc]
            exact Option.isSome_iff_exists.1 (hd2 (k + x) (by omega))
          have f3 : wr.frozen? ⟨b1, o1 + k + x, none⟩ = false := by rw [hpe.wr.fr, Nat.add_assoc]; exact hf1 (k + x) (by omega)
          have f4 : wr.frozen? ⟨b2, o2 + k + x, none⟩ = false := by rw [hpe.wr.fr, Nat.add_assoc]; exact hf2 (k + x) (by omega)
          have g5 : (wr.setCell ⟨b1, o1 + k + x, none⟩ (.string (f x))).cell? ⟨b2, o2 + k + x, none⟩ = some v2 := (cellO (by intro e; have := hap e; omega)).trans g4
          have hpe' := pe_step hpe hlt hb1 hb2 (fun e => by have := hap e; omega) g3 g4
          clear e1 e2 hd1 hd2 hf1 hf2
          go_wp2
          go_roundw
          case rel => exact ⟨x + 1, by omega, by go_num, hpe'⟩
          case measure => simp [intOf]; omega
        · obtain rfl : x = q := by omega
          clear e1 e2 hd1 hd2 hf1 hf2
          go_wp2
          go_ret
          exact ⟨rfl, hpe⟩
end Go.Proofs.Qxb6601531a
