import Derived.Test.Qxb6601531aZz
import Derived.Outline
namespace Go.Proofs.Qxb6601531a
open Go.RowKit

/-- What is known of a slice of words. -/
def UA (w : World) (a : Option Addr) (n : Nat) (u : Nat → Int) : Prop :=
  0 < n → ∃ b o, a = some ⟨b, o, none⟩ ∧ ∀ i, i < n → w.cell? ⟨b, o + i, none⟩ = some (.int .u64 (u i))

theorem cell_lt {w : World} {b o : Nat} {v : Value} (h : w.cell? ⟨b, o, none⟩ = some v) : b < w.heap.size := by
  unfold World.cell? at h
  split at h
  · rename_i hb
    exact (Array.getElem?_eq_some_iff.1 hb).1
  · cases h

theorem hasAll_lacks {f g : Nat → ByteArray} {n m : Nat} (h : Lacks g m f n) : hasAll f n g m = false := by
  obtain ⟨y, hy, hx⟩ := h
  refine hasAll_no hy ?_
  rw [fnd_none fun i hi e => hx i hi e.symm]
  omega
theorem hasAll_yes {f g : Nat → ByteArray} {n m : Nat} (h : ∀ y, y < m → ∃ x, x < n ∧ (g y).toList = (f x).toList) : hasAll f n g m = true :=
  hasAll_iff.2 fun j hj => by
    obtain ⟨x, hx, e⟩ := h j hj
    exact fnd_nonneg.2 ⟨x, hx, e.symm⟩

theorem row_keep {w w' : World} {b t n : Nat} {F : Nat → Value} {N : Nat} (h : w.rowIs b t n F) (l : Below N w w') (hb : b < N) : w'.rowIs b t n F := h.of_block (l.block b hb)

theorem cloneS (b o n c C : Nat) (hn : n ≤ 1048576) (f : Nat → ByteArray) (w : World) (hC : Hid (C = w.heap.size)) (hb : b < w.heap.size) (hc : ∀ i, i < n → w.cell? ⟨b, o + i, none⟩ = some (.string (f i))) :
    Calls Try.prog 12 #[.slice (some ⟨b, o, none⟩) n c] w fun e w' => e = .returned (.slice (some ⟨C, 0, none⟩) n n) ∧ w'.rowIs C 9 n (fun i => .string (f i)) ∧ Hid (w'.heap.size = C + 1) ∧ Below C w w' := by
  have h := hC.out
  subst h
  exact cloneStrings b o n c hn f w hb hc
theorem cloneU (b o n c C : Nat) (hn : n ≤ 1048576) (f : Nat → Int) (w : World) (hC : Hid (C = w.heap.size)) (hb : b < w.heap.size) (hc : ∀ i, i < n → w.cell? ⟨b, o + i, none⟩ = some (.int .u64 (f i))) :
    Calls Try.prog 13 #[.slice (some ⟨b, o, none⟩) n c] w fun e w' => e = .returned (.slice (some ⟨C, 0, none⟩) n n) ∧ w'.rowIs C 26 n (fun i => .int .u64 (f i)) ∧ Hid (w'.heap.size = C + 1) ∧ Below C w w' := by
  have h := hC.out
  subst h
  exact cloneWords b o n c hn f w hb hc

theorem below_drewN {w : World} {N : Nat} (t : Nat) : Below N w (w.drewN t) := ⟨rfl, rfl, rfl, Nat.le_refl _, fun _ _ => rfl⟩

theorem below_of {N : Nat} {w a : World} (h : Below N w a) (t : Nat) : Below N w (a.drewN t) := ⟨h.os, h.tape, h.output, h.size, h.block⟩

theorem plain_of {w : World} {b t n : Nat} {F : Nat → Value} (h : w.rowIs b t n F) : PlainB w b := by
  obtain ⟨c, hc, _⟩ := h
  exact ⟨c, t, hc⟩

/-- How merge's answer looks, by its parts. -/
def Shape (w6 w7 : World) (C1 C3 C6 n0 n2 : Nat) (f g : Nat → ByteArray) (M : List Ent) (bi oi k ci : Nat) (cv : Value) : Prop :=
  (bi = C3 ∧ oi = 0 ∧ k = n2 ∧ ci = n2 ∧ cv = .slice none 0 0 ∧ M.length = n2 ∧ (∀ y, y < n2 → mi M y = g y) ∧ hasAll g n2 f n0 = true ∧ ∀ x, x < n2 → w7.cell? ⟨C6, x, none⟩ = some (.int .u64 (mc M x))) ∨
  (bi = C1 ∧ oi = 0 ∧ k = n0 ∧ ci = n0 ∧ cv = .slice none 0 0 ∧ M.length = n0 ∧ (∀ y, y < n0 → mi M y = f y) ∧ hasAll f n0 g n2 = true ∧ ∀ x, x < n0 → w7.cell? ⟨C6, x, none⟩ = some (.int .u64 (mc M x))) ∨
  (k = M.length ∧ w6.heap.size ≤ bi ∧ (∀ i, i < M.length → w7.cell? ⟨bi, oi + i, none⟩ = some (.string (mi M i))) ∧ (∃ b2 o2 c2, cv = .slice (some ⟨b2, o2, none⟩) M.length c2 ∧ w6.heap.size ≤ b2 ∧ ∀ i, i < M.length → w7.cell? ⟨b2, o2 + i, none⟩ = some (.int .u64 (mc M i))) ∧
    hasAll g n2 f n0 = false ∧ hasAll f n0 g n2 = false)

theorem mc_shape {w6 w7 : World} {C1 C3 C6 n0 n2 n4 : Nat} {f g : Nat → ByteArray} {M : List Ent} {ob : Nat → Int} {e : Ending} (h : MC w6 w7 C6 n4 C1 C3 n0 n2 f g M ob e) :
    ∃ bi oi k ci cv, e = .returned (.tuple #[.slice (some ⟨bi, oi, none⟩) k ci, cv]) ∧ Hid (Shape w6 w7 C1 C3 C6 n0 n2 f g M bi oi k ci cv) := by
  rcases h.is with ⟨rfl, h2, h3, h4, h5⟩ | ⟨rfl, h2, h3, h4, h5⟩ | ⟨b1, o1, c1, b2, o2, c2, rfl, h2, h3, h4, h5, h6, h7⟩
  · exact ⟨C3, 0, n2, n2, _, rfl, .inl ⟨rfl, rfl, rfl, rfl, rfl, h2, h3, hasAll_yes h4, h5⟩⟩
  · exact ⟨C1, 0, n0, n0, _, rfl, .inr (.inl ⟨rfl, rfl, rfl, rfl, rfl, h2, h3, hasAll_yes h4, h5⟩)⟩
  · exact ⟨b1, o1, M.length, c1, _, rfl, .inr (.inr ⟨rfl, h2, h4, ⟨b2, o2, c2, rfl, h3, h5⟩, hasAll_lacks h6, hasAll_lacks h7⟩)⟩

set_option maxRecDepth 100000 in
set_option maxHeartbeats 8000000 in
theorem law6 (a0 a1 a2 a3 a4 : Option Addr) (n0 c0 n1 c1 n2 c2 n3 c3 n4 c4 : Nat) (f : Nat → ByteArray) (fc : Nat → Int) (g : Nat → ByteArray) (gc ob : Nat → Int) (w : World)
    (h0 : SA w a0 n0 f) (h1 : UA w a1 n1 fc) (h2 : SA w a2 n2 g) (h3 : UA w a3 n3 gc) (h4 : UA w a4 n4 ob) (pg : Hid (∀ y, y < n3 → 0 ≤ gc y)) :
    Calls Try.prog 6 #[.slice a0 n0 c0, .slice a1 n1 c1, .slice a2 n2 c2, .slice a3 n3 c3, .slice a4 n4 c4] w fun e w' => e = .returned (.bool true) ∧ Below w.heap.size w w' := by
  go_enter Try.func6, Try.ntmps6
  go_wp2_with fail
  refine (zz21 a0 a1 a2 a3 a4 n0 c0 n1 c1 n2 c2 n3 c3 n4 c4 f g _ h0 h2).mono ?_
  rintro e w' ⟨⟨b, rfl⟩, hw'⟩
  have hw := hw'.symm
  subst hw
  cases b with
  | false =>
    go_wp2
    go_ret
    exact ⟨rfl, Below.refl _ _⟩
  | true =>
  go_wp2_with fail
  refine (argsFit a0 a1 a2 a3 n0 c0 n1 c1 n2 c2 n3 c3 n4 f g _ h0 h2).mono ?_
  rintro e w' ⟨⟨b, rfl, hb⟩, hw'⟩
  have hw := hw'.symm
  subst hw
  cases b with
  | false =>
    go_wp2
    go_ret
    exact ⟨rfl, Below.refl _ _⟩
  | true =>
  have hbd := hb rfl
  clear hb
  go_wp2_with fail
  refine (mergeDomain a0 a1 a2 a3 n0 c0 n1 c1 n2 c2 n3 c3 n4 (by omega) (by omega) f g _ h0 h2).mono ?_
  rintro e w' ⟨⟨b, rfl, hb⟩, t, rfl⟩
  cases b with
  | false =>
    go_wp2
    go_ret
    exact ⟨rfl, below_drewN t⟩
  | true =>
  obtain ⟨⟨⟨p0, q0, sf⟩, p2, q2, sg⟩, hmx⟩ := hb rfl
  clear hb
  subst q0 q2
  have sf : Hid (Sorted f n0) := sf
  have sg : Hid (Sorted g n2) := sg
  obtain ⟨b0, o0, rfl, H0⟩ := h0 p0
  obtain ⟨b1, o1, rfl, H1⟩ := h1 p0
  obtain ⟨b2, o2, rfl, H2⟩ := h2 p2
  obtain ⟨b3, o3, rfl, H3⟩ := h3 p2
  obtain ⟨b4, o4, rfl, H4⟩ := h4 (by omega)
  have l0 := cell_lt (H0 0 p0)
  have l1 := cell_lt (H1 0 p0)
  have l2 := cell_lt (H2 0 p2)
  have l3 := cell_lt (H3 0 p2)
  have l4 := cell_lt (H4 0 (by omega))
  obtain ⟨w0, hw0⟩ : ∃ w0, Hid (w0 = w.drewN t) := ⟨_, rfl⟩
  have B0 : Below w.heap.size w w0 := by rw [hw0.out]; exact below_drewN t
  obtain ⟨C1, hC1⟩ : ∃ C, Hid (C = w0.heap.size) := ⟨_, rfl⟩
  have z0 : Hid (w.heap.size = C1) := by show _ = _; rw [hC1.out, hw0.out]; rfl
  rw [← hw0.out]
  clear hw0
  go_wp2_with fail
  refine (cloneS b0 o0 n0 c0 C1 (by omega) f _ hC1 (Nat.lt_of_lt_of_le l0 B0.size) (fun i hi => (B0.cell (p := ⟨b0, _, none⟩) l0).trans (H0 i hi))).mono ?_
  rintro e w1 ⟨rfl, r1, z1, k1⟩
  obtain ⟨C2, hC2⟩ : ∃ C, Hid (C = w1.heap.size) := ⟨_, rfl⟩
  have d1 : Hid (C2 = C1 + 1) := by have := z1.out; have := hC2.out; show _ = _; omega
  have B1 := B0.trans (k1.mono (by have := z0.out; omega))
  go_wp2_with fail
  refine (cloneU b1 o1 n0 c1 C2 (by omega) fc _ hC2 (Nat.lt_of_lt_of_le l1 B1.size) (fun i hi => (B1.cell (p := ⟨b1, _, none⟩) l1).trans (H1 i hi))).mono ?_
  rintro e w2 ⟨rfl, r2, z2, k2⟩
  obtain ⟨C3, hC3⟩ : ∃ C, Hid (C = w2.heap.size) := ⟨_, rfl⟩
  have d2 : Hid (C3 = C1 + 2) := by have := z2.out; have := hC3.out; have := d1.out; show _ = _; omega
  have B2 := B1.trans (k2.mono (by have := z0.out; have := d1.out; omega))
  replace r1 := row_keep r1 k2 (by have := d1.out; omega)
  go_wp2_with fail
  refine (cloneS b2 o2 n2 c2 C3 (by omega) g _ hC3 (Nat.lt_of_lt_of_le l2 B2.size) (fun i hi => (B2.cell (p := ⟨b2, _, none⟩) l2).trans (H2 i hi))).mono ?_
  rintro e w3 ⟨rfl, r3, z3, k3⟩
  obtain ⟨C4, hC4⟩ : ∃ C, Hid (C = w3.heap.size) := ⟨_, rfl⟩
  have d3 : Hid (C4 = C1 + 3) := by have := z3.out; have := hC4.out; have := d2.out; show _ = _; omega
  have B3 := B2.trans (k3.mono (by have := z0.out; have := d2.out; omega))
  replace r1 := row_keep r1 k3 (by have := d2.out; omega)
  replace r2 := row_keep r2 k3 (by have := d2.out; have := d1.out; omega)
  go_wp2_with fail
  refine (cloneU b3 o3 n2 c3 C4 (by omega) gc _ hC4 (Nat.lt_of_lt_of_le l3 B3.size) (fun i hi => (B3.cell (p := ⟨b3, _, none⟩) l3).trans (H3 i hi))).mono ?_
  rintro e w4 ⟨rfl, r4, z4, k4⟩
  obtain ⟨C5, hC5⟩ : ∃ C, Hid (C = w4.heap.size) := ⟨_, rfl⟩
  have d4 : Hid (C5 = C1 + 4) := by have := z4.out; have := hC5.out; have := d3.out; show _ = _; omega
  have B4 := B3.trans (k4.mono (by have := z0.out; have := d3.out; omega))
  replace r1 := row_keep r1 k4 (by have := d3.out; omega)
  replace r2 := row_keep r2 k4 (by have := d3.out; have := d1.out; omega)
  replace r3 := row_keep r3 k4 (by have := d3.out; have := d2.out; omega)
  go_wp2_with fail
  refine (cloneU b4 o4 n4 c4 C5 (by omega) ob _ hC5 (Nat.lt_of_lt_of_le l4 B4.size) (fun i hi => (B4.cell (p := ⟨b4, _, none⟩) l4).trans (H4 i hi))).mono ?_
  rintro e w5 ⟨rfl, r5, z5, k5⟩
  obtain ⟨C6, hC6⟩ : ∃ C, Hid (C = w5.heap.size) := ⟨_, rfl⟩
  have d5 : Hid (C6 = C1 + 5) := by have := z5.out; have := hC6.out; have := d4.out; show _ = _; omega
  have B5 := B4.trans (k5.mono (by have := z0.out; have := d4.out; omega))
  replace r1 := row_keep r1 k5 (by have := d4.out; omega)
  replace r2 := row_keep r2 k5 (by have := d4.out; have := d1.out; omega)
  replace r3 := row_keep r3 k5 (by have := d4.out; have := d2.out; omega)
  replace r4 := row_keep r4 k5 (by have := d4.out; have := d3.out; omega)
  go_wp2_with fail
  refine (cloneU b4 o4 n4 c4 C6 (by omega) ob _ hC6 (Nat.lt_of_lt_of_le l4 B5.size) (fun i hi => (B5.cell (p := ⟨b4, _, none⟩) l4).trans (H4 i hi))).mono ?_
  rintro e w6 ⟨rfl, r6, z6, k6⟩
  obtain ⟨C7, hC7⟩ : ∃ C, Hid (C = w6.heap.size) := ⟨_, rfl⟩
  have d6 : Hid (C7 = C1 + 6) := by have := z6.out; have := hC7.out; have := d5.out; show _ = _; omega
  have B6 := B5.trans (k6.mono (by have := z0.out; have := d5.out; omega))
  replace r1 := row_keep r1 k6 (by have := d5.out; omega)
  replace r2 := row_keep r2 k6 (by have := d5.out; have := d1.out; omega)
  replace r3 := row_keep r3 k6 (by have := d5.out; have := d2.out; omega)
  replace r4 := row_keep r4 k6 (by have := d5.out; have := d3.out; omega)
  replace r5 := row_keep r5 k6 (by have := d5.out; have := d4.out; omega)
  clear H0 H1 H2 H3 H4 h0 h1 h2 h3 h4 B0 B1 B2 B3 B4 B5 k1 k2 k3 k4 k5 k6 l0 l1 l2 l3 l4
  have hcs : Hid (w.heap.size = C1 ∧ C2 = C1 + 1 ∧ C3 = C1 + 2 ∧ C4 = C1 + 3 ∧ C5 = C1 + 4 ∧ C6 = C1 + 5 ∧ w6.heap.size = C1 + 6) := by
    refine ⟨z0.out, d1.out, d2.out, d3.out, d4.out, d5.out, ?_⟩
    have := hC7.out
    have := d6.out
    omega
  clear hC1 hC2 hC3 hC4 hC5 hC6 hC7 z0 z1 z2 z3 z4 z5 z6 d1 d2 d3 d4 d5 d6
  have hF : Five w6 C1 C2 C3 C4 C6 n0 n2 n4 f fc g gc ob := ⟨r1, r2, r3, r4, r6, by have := hcs.out; refine ⟨?_, ?_, ?_, ?_⟩ <;> omega⟩
  obtain ⟨M, hM⟩ : ∃ M, Hid (M = mu (ents f fc n0 0) (ents g gc n2 0)) := ⟨_, rfl⟩
  go_wp2_with fail
  refine (zzMerge C1 C2 C3 C4 n0 n2 C6 n4 f fc g gc ob w6 M hM hF p0 p2 (by omega) (by omega) (by omega) (by omega) sf sg).mono ?_
  intro e w7 hMC
  have hlt : Hid (C1 < w6.heap.size ∧ C2 < w6.heap.size ∧ C3 < w6.heap.size ∧ C4 < w6.heap.size ∧ C5 < w6.heap.size) := by
    have := hcs.out
    refine ⟨?_, ?_, ?_, ?_, ?_⟩ <;> omega
  have hne : Hid (C1 ≠ C6 ∧ C2 ≠ C6 ∧ C3 ≠ C6 ∧ C4 ≠ C6 ∧ C5 ≠ C6 ∧ C1 ≠ C3) := by
    have := hcs.out
    refine ⟨?_, ?_, ?_, ?_, ?_, ?_⟩ <;> omega
  have kp : ∀ {b t n : Nat} {F : Nat → Value}, w6.rowIs b t n F → b < w6.heap.size → b ≠ C6 → w7.rowIs b t n F := fun h h1 h2 => h.of_block (hMC.gr.block _ h1 (by intro e; injection e with e; exact h2 e))
  replace r1 := kp r1 hlt.out.1 hne.out.1
  replace r2 := kp r2 hlt.out.2.1 hne.out.2.1
  replace r3 := kp r3 hlt.out.2.2.1 hne.out.2.2.1
  replace r4 := kp r4 hlt.out.2.2.2.1 hne.out.2.2.2.1
  replace r5 := kp r5 hlt.out.2.2.2.2 hne.out.2.2.2.2.1
  have B7 : Below w.heap.size w w7 := B6.grown hMC.gr B6.size (by have := hcs.out; intro k e; injection e with e; omega)
  have hT : Hid (∀ x, max n0 n2 ≤ x → x < n4 → w7.cell? ⟨C6, x, none⟩ = some (.int .u64 (ob x))) := hMC.tail
  have hpl := hMC.pl
  obtain ⟨bi, oi, k, ci, cv, rfl, hS⟩ := mc_shape hMC
  have hMU : Hid (MU f g fc gc n0 n2 (mi M) (mc M) M.length) := mu_MU sf.out sg.out pg.out hM.out
  clear kp hMC r6 hF B6 hM pg
  go_wp2_with fail
  refine (maxLen_any n0 n2 _).mono ?_
  rintro e w' ⟨rfl, hw'⟩
  have hw := hw'.symm
  subst hw
  go_wp2_with fail
  go_loopw [15] (fun i wr => ∃ x t : Nat, max n0 n2 ≤ x ∧ x ≤ n4 ∧ i = .int .i64 x ∧ wr = w7.drewN t) (fun i _ => n4 - (intOf i).toNat)
  case atStart => exact ⟨max n0 n2, 0, Nat.le_refl _, hmx, rfl, rfl⟩
  case round =>
    obtain ⟨x, t1, hx1, hx2, rfl, rfl⟩ := hrel
    by_cases hlx : x < n4
    · have g1 := hT.out x hx1 hlx
      have g2 := r5.cell hlx
      have i1 : (x : Int) < n4 := by omega
      go_wp2
      go_quiet (fail)
      go_wp2
      go_roundw
      case rel => exact ⟨x + 1, t1 + nq, by omega, by omega, by go_num, rfl⟩
      case measure => simp [intOf]; omega
    · have i1 : decide ((x : Int) < n4) = false := by simp; omega
      clear hT
      obtain ⟨w8, hw8⟩ : ∃ w8, Hid (w8 = w7.drewN t1) := ⟨_, rfl⟩
      have kp8 : ∀ {b t n : Nat} {F : Nat → Value}, w7.rowIs b t n F → w8.rowIs b t n F := fun h => by rw [hw8.out]; exact h
      replace r1 := kp8 r1
      replace r2 := kp8 r2
      replace r3 := kp8 r3
      replace r4 := kp8 r4
      clear kp8
      replace hpl : PlainB w8 C6 := by rw [hw8.out]; exact hpl
      replace B7 : Below w.heap.size w w8 := by rw [hw8.out]; exact below_of B7 t1
      replace hS : Hid (Shape w6 w8 C1 C3 C6 n0 n2 f g M bi oi k ci cv) := by rw [hw8.out]; exact hS
      rw [← hw8.out]
      clear hw8 r5
      go_wp2_with fail
      refine (holdsAll C1 0 n0 n0 C3 0 n2 n2 (by omega) (by omega) f g _ sf (fun i hi => by rw [Nat.zero_add]; exact r1.cell hi) (fun i hi => by rw [Nat.zero_add]; exact r3.cell hi)).mono ?_
      rintro e w' ⟨rfl, hw'⟩
      have hw := hw'.symm
      subst hw
      obtain ⟨vH, hvH⟩ : ∃ b, Hid (b = hasAll f n0 g n2) := ⟨_, rfl⟩
      rw [← hvH.out]
      go_wp2_with fail
      refine (holdsAll C3 0 n2 n2 C1 0 n0 n0 (by omega) (by omega) g f _ sg (fun i hi => by rw [Nat.zero_add]; exact r3.cell hi) (fun i hi => by rw [Nat.zero_add]; exact r1.cell hi)).mono ?_
      rintro e w' ⟨rfl, hw'⟩
      have hw := hw'.symm
      subst hw
      obtain ⟨wH, hwH⟩ : ∃ b, Hid (b = hasAll g n2 f n0) := ⟨_, rfl⟩
      rw [← hwH.out]
      have hqn : ∀ w, (binOp .eql 23 (.slice none 0 0) (.slice none 0 0)).run Try.prog w = .ok (.bool true) w := fun w => Lib.run_eql_slice_nil w 23 26 none 0 0 0 0 Try.underlying23
      rcases hS.out with ⟨rfl, rfl, rfl, rfl, rfl, s1, s2, s3, s4⟩ | ⟨rfl, rfl, rfl, rfl, rfl, s1, s2, s3, s4⟩ | ⟨rfl, s1, s2, ⟨b2, o2, c2, rfl, s3, s4⟩, s5, s6⟩
      · have hwt : wH = true := hwH.out.trans s3
        subst hwt
        have q1 := sameAny bi ci ci C1 n0 n0 p2 w8 (plain_of r3) (by rw [r1.cell p0]; rfl) (fun e => hne.out.2.2.2.2.2 e.symm)
        have q3 : ∀ t, Calls Try.prog 15 #[.slice (some ⟨C1, 0, none⟩) n0 n0, .slice (some ⟨C2, 0, none⟩) n0 n0, .slice (some ⟨bi, 0, none⟩) ci ci, .slice (some ⟨C4, 0, none⟩) ci ci, .slice (some ⟨bi, 0, none⟩) ci ci, .slice (some ⟨C6, 0, none⟩) ci n4] (w8.drewN t)
            fun e w' => e = .returned (.bool true) ∧ ∃ t', w' = (w8.drewN t).drewN t' := fun t =>
          isMaxUnion C1 C2 bi C4 n0 ci bi 0 ci C6 0 n4 ci (by omega) (by omega) (by omega) f g fc gc (mi M) (mc M) (w8.drewN t) sf sg (fun i hi => r1.cell hi) (fun i hi => r2.cell hi) (fun i hi => r3.cell hi) (fun i hi => r4.cell hi)
            (fun i hi => by rw [Nat.zero_add, s2 i hi]; exact r3.cell hi) (fun i hi => by rw [Nat.zero_add]; exact s4 i hi) (by have := hMU.out; rw [s1] at this; exact this)
        have i2 : (ci : Int) ≤ n4 := by omega
        have i3 : decide ((n4 : Int) < ci) = false := by simp; omega
        clear hvH hwH hS s1 s2 s3 s4
        cases vH
        all_goals
          go_wp2_with fail
          refine q1.mono ?_
          rintro e w' ⟨rfl, t2, rfl⟩
          go_wp2_with fail
          refine (sameSelf bi ci ci ci p2 _).mono ?_
          rintro e w' ⟨rfl, t3, rfl⟩
          go_wp2_with fail
          refine (q3 (t2 + t3)).mono ?_
          rintro e w' ⟨rfl, t4, rfl⟩
          go_wp2
          go_ret
          exact ⟨rfl, below_of B7 _⟩
      · have hwt : vH = true := hvH.out.trans s3
        subst hwt
        have q1 := fun t => sameAny bi ci ci C3 n2 n2 p0 (w8.drewN t) (plain_of r1) (by show (w8.cell? _).isSome = true; rw [r3.cell p2]; rfl) (fun e => hne.out.2.2.2.2.2 e)
        have q3 : ∀ t, Calls Try.prog 15 #[.slice (some ⟨bi, 0, none⟩) ci ci, .slice (some ⟨C2, 0, none⟩) ci ci, .slice (some ⟨C3, 0, none⟩) n2 n2, .slice (some ⟨C4, 0, none⟩) n2 n2, .slice (some ⟨bi, 0, none⟩) ci ci, .slice (some ⟨C6, 0, none⟩) ci n4] (w8.drewN t)
            fun e w' => e = .returned (.bool true) ∧ ∃ t', w' = (w8.drewN t).drewN t' := fun t =>
          isMaxUnion bi C2 C3 C4 ci n2 bi 0 ci C6 0 n4 ci (by omega) (by omega) (by omega) f g fc gc (mi M) (mc M) (w8.drewN t) sf sg (fun i hi => r1.cell hi) (fun i hi => r2.cell hi) (fun i hi => r3.cell hi) (fun i hi => r4.cell hi)
            (fun i hi => by rw [Nat.zero_add, s2 i hi]; exact r1.cell hi) (fun i hi => by rw [Nat.zero_add]; exact s4 i hi) (by have := hMU.out; rw [s1] at this; exact this)
        have i2 : (ci : Int) ≤ n4 := by omega
        have i3 : decide ((n4 : Int) < ci) = false := by simp; omega
        clear hvH hwH hS s1 s2 s3 s4
        cases wH
        all_goals
          go_wp2_with fail
          refine (sameSelf bi ci ci ci p0 _).mono ?_
          rintro e w' ⟨rfl, t2, rfl⟩
          go_wp2_with fail
          refine (q1 t2).mono ?_
          rintro e w' ⟨rfl, t3, rfl⟩
          go_wp2_with fail
          refine (q3 (t2 + t3)).mono ?_
          rintro e w' ⟨rfl, t4, rfl⟩
          go_wp2
          go_ret
          exact ⟨rfl, below_of B7 _⟩
      · have hwt : wH = false := hwH.out.trans s5
        have hvt : vH = false := hvH.out.trans s6
        subst hwt hvt
        have pM : 0 < M.length := by have := hMU.out.len; have := com_le (f := f) (g := g) (m := n2) n0; omega
        have pM2 : M.length ≤ 1048576 := by have := hMU.out.len; omega
        have hq : ∀ w, (binOp .eql 23 (.slice (some ⟨b2, o2, none⟩) M.length c2) (.slice none 0 0)).run Try.prog w = .ok (.bool false) w := fun w => Lib.run_eql_slice_nil w 23 26 _ M.length c2 0 0 Try.underlying23
        have q3 := isMaxUnion C1 C2 C3 C4 n0 n2 bi oi ci b2 o2 c2 M.length (by omega) (by omega) pM2 f g fc gc (mi M) (mc M) w8 sf sg (fun i hi => r1.cell hi) (fun i hi => r2.cell hi) (fun i hi => r3.cell hi) (fun i hi => r4.cell hi) s2 s4 hMU
        obtain ⟨j, hj, hj1⟩ := info_of Try.info9
        obtain ⟨j', hj', hj1'⟩ := info_of Try.info26
        have e1 : (w8.cell? ⟨bi, oi, none⟩).isSome = true := by have := s2 0 pM; rw [Nat.add_zero] at this; rw [this]; rfl
        have e2 : (w8.cell? ⟨b2, o2, none⟩).isSome = true := by have := s4 0 pM; rw [Nat.add_zero] at this; rw [this]; rfl
        have u1 : ∀ t, (binOp .neq 39 (.pointer (some ⟨bi, oi, none⟩)) (.pointer (some ⟨C1, 0, none⟩))).run Try.prog (w8.drewN t) = .ok (.bool true) (w8.drewN t) := fun t => run_neq_plain (w8.drewN t) (a := ⟨bi, oi, none⟩) (b := ⟨C1, 0, none⟩) Try.underlying39 hj (by rw [hj1]; decide) (by have := hcs.out; show bi ≠ C1; omega) e1 (plain_of r1)
        have u2 : ∀ t, (binOp .neq 39 (.pointer (some ⟨bi, oi, none⟩)) (.pointer (some ⟨C3, 0, none⟩))).run Try.prog (w8.drewN t) = .ok (.bool true) (w8.drewN t) := fun t => run_neq_plain (w8.drewN t) (a := ⟨bi, oi, none⟩) (b := ⟨C3, 0, none⟩) Try.underlying39 hj (by rw [hj1]; decide) (by have := hcs.out; show bi ≠ C3; omega) e1 (plain_of r3)
        have u3 : ∀ t, (binOp .neq 40 (.pointer (some ⟨b2, o2, none⟩)) (.pointer (some ⟨C6, 0, none⟩))).run Try.prog (w8.drewN t) = .ok (.bool true) (w8.drewN t) := fun t => run_neq_plain (w8.drewN t) (a := ⟨b2, o2, none⟩) (b := ⟨C6, 0, none⟩) Try.underlying40 hj' (by rw [hj1']; decide) (by have := hcs.out; show b2 ≠ C6; omega) e2 hpl
        have u4 : ∀ t, (binOp .neq 40 (.pointer (some ⟨b2, o2, none⟩)) (.pointer (some ⟨C2, 0, none⟩))).run Try.prog (w8.drewN t) = .ok (.bool true) (w8.drewN t) := fun t => run_neq_plain (w8.drewN t) (a := ⟨b2, o2, none⟩) (b := ⟨C2, 0, none⟩) Try.underlying40 hj' (by rw [hj1']; decide) (by have := hcs.out; show b2 ≠ C2; omega) e2 (plain_of r2)
        have u5 : ∀ t, (binOp .neq 40 (.pointer (some ⟨b2, o2, none⟩)) (.pointer (some ⟨C4, 0, none⟩))).run Try.prog (w8.drewN t) = .ok (.bool true) (w8.drewN t) := fun t => run_neq_plain (w8.drewN t) (a := ⟨b2, o2, none⟩) (b := ⟨C4, 0, none⟩) Try.underlying40 hj' (by rw [hj1']; decide) (by have := hcs.out; show b2 ≠ C4; omega) e2 (plain_of r4)
        have i4 : (0 : Int) < n4 := by omega
        have i5 : (0 : Int) < M.length := by omega
        have i6 : (0 : Int) < n0 := by omega
        have i7 : (0 : Int) < n2 := by omega
        clear hvH hwH hS s1 s2 s3 s4 s5 s6 hqn hj hj1 hj' hj1' e1 e2
        go_wp2_with fail
        refine q3.mono ?_
        rintro e w' ⟨rfl, t2, rfl⟩
        go_wp2_with fail
        go_quiet (fail)
        go_wp2
        go_ret
        exact ⟨rfl, below_of (below_of B7 _) _⟩
end Go.Proofs.Qxb6601531a
