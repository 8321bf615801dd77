import Derived.Test.Qxb6601531aSm1
import Derived.Test.Qxb6601531aSmP
import Derived.Deep.LoopGhost
import Derived.Deep.DeepCutAuto
import Derived.Deep.CutBlock
import Derived.BigRegion
import Derived.Deep.RegionWith
import Derived.Lib.MinMax
import Derived.Deep.RegionHeld3
import Derived.Outline
namespace Go.Proofs.Qxb6601531a
open Go.RowKit

section
variable {f g : Nat → ByteArray} {fc gc : Nat → Int} {n m : Nat} {M : List Ent} {p i j k : Nat}

theorem Bk.small2 (h : Bk f fc g gc M p i j k) (hk : k ≤ 32) : p < 18446744073709551616 := by
  have h1 := h.lt
  have h2 : (4 : Nat) ^ k ≤ 4 ^ 32 := Nat.pow_le_pow_right (by decide) hk
  have h3 : (4 : Nat) ^ 32 = 18446744073709551616 := by decide
  omega

/-- What mergeSmall's walk keeps. -/
def MS (f : Nat → ByteArray) (fc : Nat → Int) (n : Nat) (g : Nat → ByteArray) (gc : Nat → Int) (m : Nat) (M : List Ent) (p i j k : Nat) : Prop := ML f fc n g gc m M i j k ∧ Bk f fc g gc M p i j k

theorem MS.both (h : MS f fc n g gc m M p i j k) (hi : i < n) (hj : j < m) (he : (f i).toList = (g j).toList) : MS f fc n g gc m M (4 * p) (i + 1) (j + 1) (k + 1) := by
  have := h.1.getEq hi hj he
  exact ⟨this.2, .both h.2 he this.1⟩
theorem MS.left (h : MS f fc n g gc m M p i j k) (hi : i < n) (hj : j < m) (hl : (f i).toList < (g j).toList) : MS f fc n g gc m M (4 * p + 1) (i + 1) j (k + 1) := by
  have := h.1.getV hj (q := i + 1) (by omega) (by omega) (fun x h1 h2 => by rw [show x = i by omega]; exact hl)
  have h1 := this.1 0 (by omega)
  have h2 := this.2
  rw [show i + 1 - i = 1 by omega] at h2
  exact ⟨h2, .left h.2 h1⟩
theorem MS.right (h : MS f fc n g gc m M p i j k) (hi : i < n) (hj : j < m) (hl : (g j).toList < (f i).toList) : MS f fc n g gc m M (4 * p + 2) i (j + 1) (k + 1) := by
  have := h.1.getW hi (q := j + 1) (by omega) (by omega) (fun x h1 h2 => by rw [show x = j by omega]; exact hl)
  have h1 := this.1 0 (by omega)
  have h2 := this.2
  rw [show j + 1 - j = 1 by omega] at h2
  exact ⟨h2, .right h.2 h1⟩
theorem MS.start (hM : M = mu (ents f fc n 0) (ents g gc m 0)) : MS f fc n g gc m M 0 0 0 0 := ⟨(hM ▸ mi_start (fc := fc) (gc := gc)).ml, .nil⟩
theorem MS.kle (h : MS f fc n g gc m M p i j k) : k ≤ n + m := by have := h.2.le; have := h.1.hi; have := h.1.hj; omega
end

/-- wr is w behind some draws. -/
def DW (w wr : World) : Prop := ∃ t, wr = w.drewN t
theorem DW.refl (w : World) : DW w w := ⟨0, rfl⟩
theorem DW.drewN {w wr : World} (h : DW w wr) (q : Nat) : DW w (wr.drewN q) := by
  obtain ⟨t, rfl⟩ := h
  exact ⟨t + q, by rw [World.drewN_drewN]⟩
theorem DW.env {w wr : World} (h : DW w wr) {bv bw bfi bfc bgi bgc n m : Nat} {f : Nat → ByteArray} {fc : Nat → Int} {g : Nat → ByteArray} {gc : Nat → Int} (E : Env w bv bw bfi bfc bgi bgc n m f fc g gc) : Env wr bv bw bfi bfc bgi bgc n m f fc g gc := by
  obtain ⟨t, rfl⟩ := h
  exact ⟨E.pv0, E.pv1, E.pw0, E.pw1, E.vi, E.vc, E.wi, E.wc⟩
theorem DW.below {w wr : World} (h : DW w wr) (N : Nat) : Below N w wr := by
  obtain ⟨t, rfl⟩ := h
  exact ⟨rfl, rfl, rfl, Nat.le_refl _, fun _ _ => rfl⟩
theorem DW.size {w wr : World} (h : DW w wr) : wr.heap.size = w.heap.size := by
  obtain ⟨t, rfl⟩ := h
  rfl

/-- One side in memory: a vector, its ids and counters. -/
structure Side (w : World) (B bl il cl nl : Nat) (u : Nat → ByteArray) (a : Nat → Int) : Prop where
  p0 : w.cell? ⟨bl, 0, none⟩ = some (.slice (some ⟨il, 0, none⟩) nl nl)
  p1 : w.cell? ⟨bl, 1, none⟩ = some (.slice (some ⟨cl, 0, none⟩) nl nl)
  ci : ∀ i, i < nl → w.cell? ⟨il, i, none⟩ = some (.string (u i))
  cc : ∀ i, i < nl → w.cell? ⟨cl, i, none⟩ = some (.int .u64 (a i))
  lt : bl < B ∧ il < B ∧ cl < B
theorem Side.below {w wr : World} {B bl il cl nl : Nat} {u : Nat → ByteArray} {a : Nat → Int} (h : Side w B bl il cl nl u a) (l : Below B w wr) : Side wr B bl il cl nl u a :=
  ⟨(l.cell (p := ⟨bl, 0, none⟩) h.lt.1).trans h.p0, (l.cell (p := ⟨bl, 1, none⟩) h.lt.1).trans h.p1, fun i hi => (l.cell (p := ⟨il, i, none⟩) h.lt.2.1).trans (h.ci i hi), fun i hi => (l.cell (p := ⟨cl, i, none⟩) h.lt.2.2).trans (h.cc i hi), h.lt⟩

/-- One side, long, holds every id of the other. -/
structure OSd (a b : Nat → Int) (u : Nat → ByteArray) (nl ns : Nat) (M : List Ent) (p k : Nat) : Prop where
  os : Os a b M p ns k
  kle : k ≤ nl
  len : M.length = nl
  ids : ∀ z, z < nl → mi M z = u z
  rest : ∀ z, k ≤ z → z < nl → mc M z = a z
  sm : p < 18446744073709551616

theorem MS.osV {f g : Nat → ByteArray} {fc gc : Nat → Int} {n m : Nat} {M : List Ent} {p i j k : Nat} (h : MS f fc n g gc m M p i j k) (hj : j = m) (hk : k ≤ 32) (hp : p &&& masks 2 32 = 0) : OSd fc gc f n m M p k := by
  subst hj
  obtain ⟨h1, h2⟩ := h.2.noRight 32 (by omega) hp
  have hV := h.1.endV (.inr rfl)
  have hW := hV.2.endW.2
  have hi := h.1.hi
  subst h1
  refine ⟨h.2.osV 32 (by omega) hp, hi, by omega, fun z hz => ?_, fun z h3 h4 => ?_, h.2.small2 hk⟩
  · by_cases e : z < k
    · exact h2 z e
    · have := hV.1 (z - k) (by omega)
      rw [show k + (z - k) = z by omega] at this
      exact mi_of this
  · have := hV.1 (z - k) (by omega)
    rw [show k + (z - k) = z by omega] at this
    exact mc_of this

theorem MS.osW {f g : Nat → ByteArray} {fc gc : Nat → Int} {n m : Nat} {M : List Ent} {p i j k : Nat} (h : MS f fc n g gc m M p i j k) (hi : i = n) (hk : k ≤ 32) (hp : p &&& masks 1 32 = 0) : OSd gc fc g m n M p k := by
  subst hi
  obtain ⟨h1, h2⟩ := h.2.noLeft 32 (by omega) hp
  have hW := h.1.endW
  have hj := h.1.hj
  subst h1
  refine ⟨h.2.osW 32 (by omega) hp, hj, by omega, fun z hz => ?_, fun z h3 h4 => ?_, h.2.small2 hk⟩
  · by_cases e : z < k
    · exact h2 z e
    · have := hW.1 (z - k) (by omega)
      rw [show k + (z - k) = z by omega] at this
      exact mi_of this
  · have := hW.1 (z - k) (by omega)
    rw [show k + (z - k) = z by omega] at this
    exact mc_of this

/-- The counters' own list, as mergeSmall fills it. -/
structure RC (w wr : World) (nl : Nat) (F : Nat → Int) : Prop where
  row : wr.rowIs w.heap.size 26 nl (fun z => .int .u64 (F z))
  bel : Below w.heap.size w wr
theorem RC.drewN {w wr : World} {nl : Nat} {F : Nat → Int} (h : RC w wr nl F) (q : Nat) : RC w (wr.drewN q) nl F := ⟨h.row, ⟨h.bel.os, h.bel.tape, h.bel.output, h.bel.size, h.bel.block⟩⟩
theorem RC.set {w wr : World} {nl : Nat} {F G : Nat → Int} (h : RC w wr nl F) (z : Nat) (u : Int) (hG : ∀ x, x < nl → G x = if x = z then u else F x) : RC w (wr.setCell ⟨w.heap.size, z, none⟩ (.int .u64 u)) nl G :=
  ⟨(h.row.set z _).congr (fun x hx => by rw [hG x hx]; by_cases e : x = z <;> simp [e]), h.bel.setCell (p := ⟨w.heap.size, z, none⟩) (Nat.le_refl _) _⟩

theorem RC.made {w wc : World} (h : DW w wc) (nl : Nat) : RC w (wc.alloc (.cells (madeCells #[.int .u64 0] nl) 26)) nl (fun _ => 0) := by
  obtain ⟨t, rfl⟩ := h
  exact ⟨World.rowIs_made (w.drewN t) (.int .u64 0) nl 26, ((⟨rfl, rfl, rfl, Nat.le_refl _, fun _ _ => rfl⟩ : Below w.heap.size w (w.drewN t))).alloc (Nat.le_refl _) _⟩
theorem RC.congr {w wr : World} {nl : Nat} {F G : Nat → Int} (h : RC w wr nl F) (e : ∀ x, x < nl → F x = G x) : RC w wr nl G := ⟨h.row.congr (fun x hx => by rw [e x hx]), h.bel⟩
theorem RC.sets {w : World} {nl : Nat} : ∀ (q K : Nat) (g : Nat → Int) (wr : World) (F : Nat → Int), RC w wr nl F → RC w (wr.setCells w.heap.size K (us g q)) nl (fun x => if K ≤ x ∧ x < K + q then g (x - K) else F x)
  | 0, K, g, wr, F, h => h.congr (fun x _ => by rw [if_neg (by omega)])
  | q + 1, K, g, wr, F, h => by
    have e : us g (q + 1) = .int .u64 (g 0) :: us (fun t => g (t + 1)) q := by simp [us, List.range_succ_eq_map, Function.comp_def]
    rw [e]
    have := RC.sets q (K + 1) (fun t => g (t + 1)) _ _ (h.set K (g 0) (fun _ _ => rfl))
    refine RC.congr this (fun x _ => ?_)
    by_cases h1 : x = K
    · subst h1; rw [if_neg (by omega), if_pos rfl, if_pos (by omega), Nat.sub_self]
    · by_cases h2 : K + 1 ≤ x ∧ x < K + 1 + q
      · rw [if_pos h2, if_pos (by omega), show x - (K + 1) + 1 = x - K by omega]
      · rw [if_neg h2, if_neg h1, if_neg (by omega)]
theorem and3 {P : Nat} (h : P < 18446744073709551616) : bits .and .u64 (P : Int) 3 = ((P % 4 : Nat) : Int) := by
  have := bits_and h (y := 3) (by decide)
  rw [show P &&& 3 = P % 4 from Nat.and_two_pow_sub_one_eq_mod P 2] at this
  exact this

theorem Env.below {w wr : World} {bv bw bfi bfc bgi bgc n m : Nat} {f : Nat → ByteArray} {fc : Nat → Int} {g : Nat → ByteArray} {gc : Nat → Int} (E : Env w bv bw bfi bfc bgi bgc n m f fc g gc)
    (hA : bv < w.heap.size ∧ bw < w.heap.size ∧ bfi < w.heap.size ∧ bfc < w.heap.size ∧ bgi < w.heap.size ∧ bgc < w.heap.size) (l : Below w.heap.size w wr) : Env wr bv bw bfi bfc bgi bgc n m f fc g gc :=
  ⟨(l.cell (p := ⟨bv, 0, none⟩) hA.1).trans E.pv0, (l.cell (p := ⟨bv, 1, none⟩) hA.1).trans E.pv1, (l.cell (p := ⟨bw, 0, none⟩) hA.2.1).trans E.pw0, (l.cell (p := ⟨bw, 1, none⟩) hA.2.1).trans E.pw1,
    fun i hi => (l.cell (p := ⟨bfi, i, none⟩) hA.2.2.1).trans (E.vi i hi), fun i hi => (l.cell (p := ⟨bfc, i, none⟩) hA.2.2.2.1).trans (E.vc i hi),
    fun i hi => (l.cell (p := ⟨bgi, i, none⟩) hA.2.2.2.2.1).trans (E.wi i hi), fun i hi => (l.cell (p := ⟨bgc, i, none⟩) hA.2.2.2.2.2).trans (E.wc i hi)⟩

/-- The lists that mergeSmall fills from the back: entries z and up are laid. -/
structure Rz (w wr : World) (M : List Ent) (T b1 o1 b2 o2 z : Nat) : Prop where
  bel : Below w.heap.size w wr
  s : ∀ i, z ≤ i → i < T → wr.cell? ⟨b1, o1 + i, none⟩ = some (.string (mi M i))
  u : ∀ i, z ≤ i → i < T → wr.cell? ⟨b2, o2 + i, none⟩ = some (.int .u64 (mc M i))
  d1 : ∀ i, i < T → (wr.cell? ⟨b1, o1 + i, none⟩).isSome = true
  d2 : ∀ i, i < T → (wr.cell? ⟨b2, o2 + i, none⟩).isSome = true
  f1 : ∀ i, i < T → wr.frozen? ⟨b1, o1 + i, none⟩ = false
  f2 : ∀ i, i < T → wr.frozen? ⟨b2, o2 + i, none⟩ = false

/-- Where they lie. -/
structure Az (w : World) (T b1 o1 c1 b2 o2 c2 : Nat) : Prop where
  l1 : w.heap.size ≤ b1
  l2 : w.heap.size ≤ b2
  ap : b1 = b2 → o1 + T ≤ o2
  k1 : T ≤ c1
  k2 : T ≤ c2

theorem Rz.drewN {w wr : World} {M : List Ent} {T b1 o1 b2 o2 z : Nat} (h : Rz w wr M T b1 o1 b2 o2 z) (q : Nat) : Rz w (wr.drewN q) M T b1 o1 b2 o2 z :=
  ⟨⟨h.bel.os, h.bel.tape, h.bel.output, h.bel.size, h.bel.block⟩, h.s, h.u, h.d1, h.d2, h.f1, h.f2⟩

/-- q entries more, laid ahead of those that stand. -/
theorem Rz.put {w wr w' : World} {M : List Ent} {T b1 o1 c1 b2 o2 c2 z q : Nat} (A : Az w T b1 o1 c1 b2 o2 c2) (h : Rz w wr M T b1 o1 b2 o2 (z + q)) (hq : z + q ≤ T)
    (p : PE wr w' w.heap.size b1 (o1 + z) b2 (o2 + z) q (fun i => mi M (z + i)) (fun i => mc M (z + i))) : Rz w w' M T b1 o1 b2 o2 z := by
  refine ⟨h.bel.trans p.wr.bel, fun i h1 h2 => ?_, fun i h1 h2 => ?_, fun i hi => ?_, fun i hi => ?_, fun i hi => by rw [p.wr.fr]; exact h.f1 i hi, fun i hi => by rw [p.wr.fr]; exact h.f2 i hi⟩
  · by_cases e : z + q ≤ i
    · rw [p.wr.keep b1 (o1 + i) (fun _ => by omega) (fun e => by have := A.ap e; omega)]; exact h.s i e h2
    · have := p.s (i - z) (by omega)
      rw [show o1 + z + (i - z) = o1 + i by omega, show z + (i - z) = i by omega] at this
      exact this
  · by_cases e : z + q ≤ i
    · rw [p.wr.keep b2 (o2 + i) (fun e => by have := A.ap e.symm; omega) (fun _ => by omega)]; exact h.u i e h2
    · have := p.u (i - z) (by omega)
      rw [show o2 + z + (i - z) = o2 + i by omega, show z + (i - z) = i by omega] at this
      exact this
  · by_cases e : i < z ∨ z + q ≤ i
    · rw [p.wr.keep b1 (o1 + i) (fun _ => by omega) (fun e => by have := A.ap e; omega)]; exact h.d1 i hi
    · have := p.s (i - z) (by omega)
      rw [show o1 + z + (i - z) = o1 + i by omega] at this
      rw [this]; rfl
  · by_cases e : i < z ∨ z + q ≤ i
    · rw [p.wr.keep b2 (o2 + i) (fun e => by have := A.ap e.symm; omega) (fun _ => by omega)]; exact h.d2 i hi
    · have := p.u (i - z) (by omega)
      rw [show o2 + z + (i - z) = o2 + i by omega] at this
      rw [this]; rfl

theorem Rz.made {w wx w' : World} {M : List Ent} {T b1 o1 c1 b2 o2 c2 : Nat} (h : DW w wx) (p : NL wx w' T b1 o1 c1 b2 o2 c2) : Az w T b1 o1 c1 b2 o2 c2 ∧ Rz w w' M T b1 o1 b2 o2 T := by
  have hz := h.size
  have hb := h.below w.heap.size
  exact ⟨⟨by have := p.lo1; omega, by have := p.lo2; omega, p.apart, p.cap1, p.cap2⟩, hb.trans (p.below.mono (Nat.le_of_eq hz.symm)), fun i h1 h2 => by omega, fun i h1 h2 => by omega, fun i hi => by rw [p.s i hi]; rfl, fun i hi => by rw [p.u i hi]; rfl, p.fs, p.fu⟩

/-- One entry more. -/
theorem Rz.put1 {w wr : World} {M : List Ent} {T b1 o1 c1 b2 o2 c2 z : Nat} {x : ByteArray} {u : Int} (A : Az w T b1 o1 c1 b2 o2 c2) (h : Rz w wr M T b1 o1 b2 o2 (z + 1)) (hz : z < T) (hM : M[z]? = some (x, u)) :
    Rz w ((wr.setCell ⟨b1, o1 + z, none⟩ (.string x)).setCell ⟨b2, o2 + z, none⟩ (.int .u64 u)) M T b1 o1 b2 o2 z := by
  obtain ⟨v1, hv1⟩ := Option.isSome_iff_exists.1 (h.d1 z hz)
  obtain ⟨v2, hv2⟩ := Option.isSome_iff_exists.1 (h.d2 z hz)
  have := pe_step (x := 0) (q := 1) (pe_start wr w.heap.size b1 (o1 + z) b2 (o2 + z) (fun i => mi M (z + i)) (fun i => mc M (z + i))) (by omega) A.l1 A.l2 (fun e => by have := A.ap e; omega) hv1 hv2
  simp only [Nat.add_zero, mi_of hM, mc_of hM] at this
  exact h.put A (by omega) this

/-- What mergeSmall answers. -/
def SR (w w' : World) (M : List Ent) (e : Ending) : Prop :=
  ∃ bi oi ci bc oc cc, e = .returned (.tuple #[.slice (some ⟨bi, oi, none⟩) M.length ci, .slice (some ⟨bc, oc, none⟩) M.length cc]) ∧ (∀ z, z < M.length → w'.cell? ⟨bi, oi + z, none⟩ = some (.string (mi M z))) ∧ (∀ z, z < M.length → w'.cell? ⟨bc, oc + z, none⟩ = some (.int .u64 (mc M z))) ∧ Below w.heap.size w w'

set_option maxRecDepth 100000 in
set_option maxHeartbeats 40000000 in
theorem small_any (bv bw bfi bfc bgi bgc n m : Nat) (f : Nat → ByteArray) (fc : Nat → Int) (g : Nat → ByteArray) (gc : Nat → Int) (w : World) (M : List Ent) (hM : Hid (M = mu (ents f fc n 0) (ents g gc m 0)))
    (E : Env w bv bw bfi bfc bgi bgc n m f fc g gc) (hn : 0 < n) (hm : 0 < m) (hn16 : n ≤ 16) (hm16 : m ≤ 16) (hA : bv < w.heap.size ∧ bw < w.heap.size ∧ bfi < w.heap.size ∧ bfc < w.heap.size ∧ bgi < w.heap.size ∧ bgc < w.heap.size) (hsz : Hid (∀ i, i < n → (f i).size ≤ 9223372036854775807)) :
    Calls Try.prog 30 #[.pointer (some ⟨bv, 0, none⟩), .pointer (some ⟨bw, 0, none⟩)] w fun e w' => SR w w' M e := by
  go_enter Try.func30, Try.ntmps30
  go_upto_block 0 with fail
  go_cut [6] (fun k wc => ∃ K : Nat, k = .int .i64 K ∧ DW w wc ∧ Hid (MS f fc n g gc m M 0 K K K))
  case first =>
    as_aux_lemma =>
      go_wp2_with fail
      go_loopw [6] (fun k wr => ∃ K : Nat, k = .int .i64 K ∧ DW w wr ∧ Hid (MS f fc n g gc m M 0 K K K)) (fun k _ => n - (intOf k).toNat)
      case atStart => exact ⟨0, rfl, .refl w, .start hM.out⟩
      case round =>
        obtain ⟨K, rfl, hD, hI⟩ := hrel
        have EE := hD.env E
        have e1 := EE.pv0
        have e2 := EE.pw0
        by_cases h1 : K < n
        · have d1 : (K : Int) < n := by omega
          by_cases h2 : K < m
          · have d2 : (K : Int) < m := by omega
            have e3 := EE.vi K h1
            have e4 := EE.wi K h2
            by_cases he : (f K).toList = (g K).toList
            · have hs : sid (f K) (g K) = true := by simp [sid, he]
              have hN : Hid (MS f fc n g gc m M 0 (K + 1) (K + 1) (K + 1)) := hI.out.both h1 h2 he
              clear he hI
              go_wp2_with fail
              go_quiet ((go_at_call 34; exact Calls.quiet_of (sameID _ _ (hsz.out K h1) _)))
              go_wp2
              go_roundw
              case rel => exact ⟨K + 1, by go_num, hD.drewN _, hN⟩
              case measure => simp [intOf]; omega
            · have hs : sid (f K) (g K) = false := by simp [sid, he]
              clear he
              go_wp2_with fail
              go_quiet ((go_at_call 34; exact Calls.quiet_of (sameID _ _ (hsz.out K h1) _)))
              go_wp2
              go_meet
              case rel => exact ⟨K, rfl, hD.drewN _, hI⟩
          · have d2 : decide ((K : Int) < m) = false := by simp; omega
            go_wp2_with fail
            go_quiet (fail)
            go_wp2
            go_meet
            case rel => exact ⟨K, rfl, hD.drewN _, hI⟩
        · have d1 : decide ((K : Int) < n) = false := by simp; omega
          go_wp2_with fail
          go_quiet (fail)
          go_wp2
          go_meet
          case rel => exact ⟨K, rfl, hD.drewN _, hI⟩
  case rest =>
    obtain ⟨K, rfl, hD, hI⟩ := hcut
    go_upto_block 2 with fail
    go_cut [6, 7, 8, 9] (fun k i j p wx => ∃ K I J P : Nat, k = .int .i64 K ∧ i = .int .i64 I ∧ j = .int .i64 J ∧ p = .int .u64 P ∧ DW w wx ∧ Hid (I = n ∨ J = m) ∧ Hid (MS f fc n g gc m M P I J K))
    case first =>
      as_aux_lemma =>
        go_wp2_with fail
        go_loopw [6, 7, 8, 9] (fun k i j p wr => ∃ K I J P : Nat, k = .int .i64 K ∧ i = .int .i64 I ∧ j = .int .i64 J ∧ p = .int .u64 P ∧ DW w wr ∧ Hid (MS f fc n g gc m M P I J K))
          (fun _ i j _ _ => (n - (intOf i).toNat) + (m - (intOf j).toNat))
        case atStart => exact ⟨K, K, K, 0, rfl, rfl, rfl, rfl, hD, hI⟩
        case round =>
          clear hD hI
          obtain ⟨K, I, J, P, rfl, rfl, rfl, rfl, hD, hI⟩ := hrel
          have EE := hD.env E
          have e1 := EE.pv0
          have e2 := EE.pw0
          by_cases h1 : I < n
          · have d1 : (I : Int) < n := by omega
            by_cases h2 : J < m
            · have d2 : (J : Int) < m := by omega
              have e3 := EE.vi I h1
              have e4 := EE.wi J h2
              have hK : K ≤ 31 := by have := hI.out.2.le; omega
              have hP : Hid (P < 4611686018427387904) := hI.out.2.small hK
              have q1 : IntKind.u64.wrap ((P : Int) * 4) = (P : Int) * 4 := by have := u64_in (x := P * 4) (by have := hP.out; omega); simpa using this
              rcases klt_tri (f I).toList (g J).toList with hlt | heq | hgt
              · have hc : cmpI (f I) (g J) = -1 := by unfold cmpI; rw [if_neg (fun e => klt_irrefl _ (e ▸ hlt)), if_pos hlt]
                have q2 : bits .or .u64 ((P : Int) * 4) 1 = ((4 * P + 1 : Nat) : Int) := bits_or hP.out (s := 1) (by omega)
                have hN : Hid (MS f fc n g gc m M (4 * P + 1) (I + 1) J (K + 1)) := hI.out.left h1 h2 hlt
                clear hI hP
                go_wp2_with fail
                go_quiet ((go_at_call 35; exact Calls.quiet_of_same (strCompare _ _ _)))
                go_wp2
                go_roundw
                case rel => exact ⟨K + 1, I + 1, J, 4 * P + 1, by go_num, by go_num, rfl, by first | rfl | go_num, hD.drewN _, hN⟩
                case measure => simp [intOf]; omega
              · have hc : cmpI (f I) (g J) = 0 := by unfold cmpI; rw [if_pos heq]
                have q2 : bits .or .u64 ((P : Int) * 4) 0 = ((4 * P : Nat) : Int) := bits_or hP.out (s := 0) (by omega)
                have hN : Hid (MS f fc n g gc m M (4 * P) (I + 1) (J + 1) (K + 1)) := hI.out.both h1 h2 heq
                clear hI hP
                go_wp2_with fail
                go_quiet ((go_at_call 35; exact Calls.quiet_of_same (strCompare _ _ _)))
                go_wp2
                go_roundw
                case rel => exact ⟨K + 1, I + 1, J + 1, 4 * P, by go_num, by go_num, by go_num, by first | rfl | go_num, hD.drewN _, hN⟩
                case measure => simp [intOf]; omega
              · have hc : cmpI (f I) (g J) = 1 := by unfold cmpI; rw [if_neg (fun e => klt_irrefl _ (e ▸ hgt)), if_neg (fun h => klt_irrefl _ (klt_trans h hgt))]
                have q2 : bits .or .u64 ((P : Int) * 4) 2 = ((4 * P + 2 : Nat) : Int) := bits_or hP.out (s := 2) (by omega)
                have hN : Hid (MS f fc n g gc m M (4 * P + 2) I (J + 1) (K + 1)) := hI.out.right h1 h2 hgt
                clear hI hP
                go_wp2_with fail
                go_quiet ((go_at_call 35; exact Calls.quiet_of_same (strCompare _ _ _)))
                go_wp2
                go_roundw
                case rel => exact ⟨K + 1, I, J + 1, 4 * P + 2, by go_num, rfl, by go_num, by first | rfl | go_num, hD.drewN _, hN⟩
                case measure => simp [intOf]; omega
            · have d2 : decide ((J : Int) < m) = false := by simp; omega
              have hx : Hid (I = n ∨ J = m) := .inr (by have := hI.out.1.hj; omega)
              go_wp2
              go_meet
              case rel => exact ⟨K, I, J, P, rfl, rfl, rfl, rfl, hD, hx, hI⟩
          · have d1 : decide ((I : Int) < n) = false := by simp; omega
            have hx : Hid (I = n ∨ J = m) := .inl (by have := hI.out.1.hi; omega)
            go_wp2
            go_meet
            case rel => exact ⟨K, I, J, P, rfl, rfl, rfl, rfl, hD, hx, hI⟩
    case rest =>
      clear hD hI
      obtain ⟨K, I, J, P, rfl, rfl, rfl, rfl, hD, hx, hI⟩ := hcut
      have hK : Hid (K ≤ 32) := by have := hI.out.kle; show _ ≤ _; omega
      have EE := hD.env E
      have e1 := EE.pv0
      have e2 := EE.pw0
      have hPb : Hid (P < 18446744073709551616) := hI.out.2.small2 hK.out
      have b1 : bits .and .u64 (P : Int) 6148914691236517205 = ((P &&& masks 1 32 : Nat) : Int) := by rw [masks1]; exact bits_and hPb.out (by decide)
      have b2 : bits .and .u64 (P : Int) 12297829382473034410 = ((P &&& masks 2 32 : Nat) : Int) := by rw [masks2]; exact bits_and hPb.out (by decide)
      generalize hm1 : P &&& masks 1 32 = X1 at b1
      generalize hm2 : P &&& masks 2 32 = X2 at b2
      have hm1 : Hid (P &&& masks 1 32 = X1) := hm1
      have hm2 : Hid (P &&& masks 2 32 = X2) := hm2
      have hIn := hI.out.1.hi
      have hJm := hI.out.1.hj
      go_upto_region 17 with fail
      go_cut [11] from 120 to 131 (fun v wx => wx = wc ∧ ∃ VS : Bool, v = .bool VS ∧ Hid (VS = false → I = n ∧ P &&& masks 1 32 = 0))
      case first =>
        by_cases h1 : I < n
        · have d1 : (I : Int) < n := by omega
          go_wp2_with fail
          go_meet
          case rel => exact ⟨rfl, true, rfl, fun h => by cases h⟩
        · have d1 : decide ((I : Int) < n) = false := by simp; omega
          by_cases h2 : X1 = 0
          · have d2 : ((X1 : Int) != 0) = false := by simp; omega
            have hd : Hid (I = n ∧ P &&& masks 1 32 = 0) := ⟨by omega, by rw [hm1.out]; exact h2⟩
            clear h2
            go_wp2_with fail
            go_meet
            case rel => exact ⟨rfl, false, rfl, fun _ => hd.out⟩
          · have d2 : ((X1 : Int) != 0) = true := by simp; omega
            go_wp2_with fail
            go_meet
            case rel => exact ⟨rfl, true, rfl, fun h => by cases h⟩
      case rest =>
        obtain ⟨rfl, VS, rfl, hVS⟩ := hcut
        go_upto_region 18 with fail
        go_cut [12] from 132 to 143 (fun v wx => wx = wc ∧ ∃ WS : Bool, v = .bool WS ∧ Hid (WS = false → J = m ∧ P &&& masks 2 32 = 0))
        case first =>
          by_cases h1 : J < m
          · have d1 : (J : Int) < m := by omega
            go_wp2_with fail
            go_meet
            case rel => exact ⟨rfl, true, rfl, fun h => by cases h⟩
          · have d1 : decide ((J : Int) < m) = false := by simp; omega
            by_cases h2 : X2 = 0
            · have d2 : ((X2 : Int) != 0) = false := by simp; omega
              have hd : Hid (J = m ∧ P &&& masks 2 32 = 0) := ⟨by omega, by rw [hm2.out]; exact h2⟩
              clear h2
              go_wp2_with fail
              go_meet
              case rel => exact ⟨rfl, false, rfl, fun _ => hd.out⟩
            · have d2 : ((X2 : Int) != 0) = true := by simp; omega
              go_wp2_with fail
              go_meet
              case rel => exact ⟨rfl, true, rfl, fun h => by cases h⟩
        case rest =>
          obtain ⟨rfl, WS, rfl, hWS⟩ := hcut
          clear b1 b2 hm1 hm2 hIn hJm e1 e2
          have hSv : Side w w.heap.size bv bfi bfc n f fc := ⟨E.pv0, E.pv1, E.vi, E.vc, hA.1, hA.2.2.1, hA.2.2.2.1⟩
          have hSw : Side w w.heap.size bw bgi bgc m g gc := ⟨E.pw0, E.pw1, E.wi, E.wc, hA.2.1, hA.2.2.2.2.1, hA.2.2.2.2.2⟩
          have hDb := hD.below w.heap.size
          go_upto_region 19 with fail
          go_cut [149] from 144 to 148 (fun v wx => wx = wc ∧ v = .bool (!VS || !WS))
          case first =>
            cases VS
            all_goals
              go_wp2_with fail
              go_meet
              case rel => exact ⟨rfl, by cases WS <;> rfl⟩
          case rest =>
            obtain ⟨rfl, rfl⟩ := hcut
            by_cases hb : (!VS || !WS) = true
            · rw [hb]
              go_upto_if 153 with fail
              go_cut [13, 14] from 152 to 155 (fun l s wx => wx = wc ∧ ∃ (bl bs il cl nl is cs ns : Nat) (u u' : Nat → ByteArray) (a b : Nat → Int), l = .pointer (some ⟨bl, 0, none⟩) ∧ s = .pointer (some ⟨bs, 0, none⟩) ∧ Side w w.heap.size bl il cl nl u a ∧ Side w w.heap.size bs is cs ns u' b ∧ nl ≤ 16 ∧ ns ≤ 16 ∧ Hid (OSd a b u nl ns M P K))
              case first =>
                cases WS with
                | false =>
                  have hO : Hid (OSd fc gc f n m M P K) := hI.out.osV (hWS.out rfl).1 hK.out (hWS.out rfl).2
                  clear hWS hVS
                  go_wp2_with fail
                  go_meet
                  case rel => exact ⟨rfl, bv, bw, bfi, bfc, n, bgi, bgc, m, f, g, fc, gc, rfl, rfl, hSv, hSw, hn16, hm16, hO⟩
                | true =>
                  have hv : VS = false := by simpa using hb
                  have hO : Hid (OSd gc fc g m n M P K) := hI.out.osW (hVS.out hv).1 hK.out (hVS.out hv).2
                  clear hWS hVS hv hb
                  go_wp2_with fail
                  go_meet
                  case rel => exact ⟨rfl, bw, bv, bgi, bgc, m, bfi, bfc, n, g, f, gc, fc, rfl, rfl, hSw, hSv, hm16, hn16, hO⟩
              case rest =>
                obtain ⟨rfl, bl, bs, il, cl, nl, is, cs, ns, u, u', a, b, rfl, rfl, hL, hS, hnl, hns, hO⟩ := hcut
                clear hI hWS hVS hb E EE hSv hSw hx
                have L0 := (hL.below hDb).p0
                have hz := hD.size
                have hmk := run_make_row' (P := Try.prog) 23 26 (.int .u64 0) 8 Try.underlying23 Try.info26 rfl .i64 .i64 nl (by omega) (by omega)
                have hR := RC.made hD nl
                go_upto_if 163 with fail
                generalize wc.alloc (.cells (madeCells #[.int .u64 0] nl) 26) = wa at *
                clear hD hDb L0 hz hmk
                go_cut [9, 16, 17, 18, 19, 20, 21] from 162 to 229 (fun _ _ _ _ _ _ _ wx => RC w wx nl (fun z => if z < K then mc M z else 0))
                case first =>
                  as_aux_lemma =>
                    by_cases hp : P = 0
                    · have hp' : ((P : Int) == 0) = true := by simp [hp]
                      have hq : Hid (ns = K ∧ ∀ x, x < K → mc M x = max (a x) (b x)) := hO.out.os.zero hp
                      have hKn : Hid (K ≤ nl) := hO.out.kle
                      have i1 : (K : Int) ≤ nl := by have := hKn.out; omega
                      have i2 : (K : Int) ≤ ns := by have := hq.out.1; omega
                      have e1 := (hL.below hR.bel).p1
                      have e2 := (hS.below hR.bel).p1
                      clear hp hO
                      go_wp2_with fail
                      go_loopw [177] (fun c wr => ∃ x : Nat, x ≤ K ∧ c = .int .i64 x ∧ RC w wr nl (fun z => if z < x then mc M z else 0)) (fun c _ => K - (intOf c).toNat)
                      case atStart => exact ⟨0, Nat.zero_le _, rfl, hR.congr (fun x _ => by rw [if_neg (by omega)])⟩
                      case round =>
                        clear hR e1 e2
                        obtain ⟨x, hx, rfl, hR⟩ := hrel
                        by_cases hlt : x < K
                        · have e1 := (hL.below hR.bel).cc x (by have := hKn.out; omega)
                          have e2 := (hS.below hR.bel).cc x (by have := hq.out.1; omega)
                          have hxn : x < nl := by have := hKn.out; omega
                          have e3 := hR.row.cell hxn
                          have e4 := hR.row.frozen x
                          have i3 : (x : Int) < K := by omega
                          have i4 : (x : Int) < nl := by omega
                          have hN : Hid (RC w (wr.setCell ⟨w.heap.size, x, none⟩ (.int .u64 (max (a x) (b x)))) nl (fun z => if z < x + 1 then mc M z else 0)) := hR.set x _ (fun y hy => by
                            by_cases e : y = x
                            · subst e; rw [if_pos rfl, if_pos (by omega)]; exact hq.out.2 y hlt
                            · rw [if_neg e]
                              by_cases e2 : y < x
                              · rw [if_pos e2, if_pos (by omega)]
                              · rw [if_neg e2, if_neg (by omega)])
                          go_wp2
                          go_roundw
                          case rel => exact ⟨x + 1, by omega, by go_num, hN.out⟩
                          case measure => simp [intOf]; omega
                        · have i3 : decide ((x : Int) < K) = false := by simp; omega
                          have hxe : Hid (x = K) := by show _ = _; omega
                          go_wp2
                          go_meet
                          case rel => have := hxe.out; subst this; exact hR
                    · have hp' : ((P : Int) == 0) = false := by rw [beq_eq_false_iff_ne]; omega
                      have hKn : Hid (K ≤ nl) := hO.out.kle
                      have hOs : Hid (Os a b M P ns K ∧ ns ≤ ns ∧ K ≤ K ∧ P < 18446744073709551616) := ⟨hO.out.os, Nat.le_refl _, Nat.le_refl _, hO.out.sm⟩
                      have e1 := (hS.below hR.bel).p0
                      have hK2 : K ≤ 16 := by have := hKn.out; omega
                      clear hp hO
                      go_wp2_with fail
                      go_loopw [9, 19, 20, 21] (fun p s z _ wr => ∃ P' S Z : Nat, p = .int .u64 P' ∧ s = .int .i64 S ∧ z = .int .i64 ((Z : Int) - 1) ∧ RC w wr nl (fun x => if Z ≤ x ∧ x < K then mc M x else 0) ∧ Hid (Os a b M P' S Z ∧ S ≤ ns ∧ Z ≤ K ∧ P' < 18446744073709551616)) (fun _ _ z _ _ => (intOf z + 1).toNat)
                      case atStart => exact ⟨P, ns, K, rfl, rfl, by go_num, hR.congr (fun x _ => by rw [if_neg (by omega)]), hOs⟩
                      case round =>
                        clear hR hOs e1
                        obtain ⟨P', S, Z, rfl, rfl, rfl, hR, hOs⟩ := hrel
                        cases Z with
                        | zero =>
                          have hz : ((0 : Nat) : Int) - 1 = -1 := rfl
                          rw [hz]
                          go_wp2
                          go_meet
                          case rel => exact hR.congr (fun x _ => by by_cases h : x < K <;> simp [h])
                        | succ Z =>
                          have hz : ((Z + 1 : Nat) : Int) - 1 = (Z : Int) := by omega
                          rw [hz]
                          have hZK : Z < K := by have := hOs.out.2.2.1; omega
                          have hZn : Z < nl := by have := hKn.out; omega
                          have e1 := (hL.below hR.bel).p1
                          have e2 := (hL.below hR.bel).cc Z hZn
                          have e3 := hR.row.cell hZn
                          have e4 := hR.row.frozen Z
                          have i1 : (Z : Int) < nl := by omega
                          have i0 : (0 : Int) ≤ Z := by omega
                          have q1 := and3 hOs.out.2.2.2
                          have hset : ∀ v, mc M Z = v → RC w (wr.setCell ⟨w.heap.size, Z, none⟩ (.int .u64 v)) nl (fun x => if Z ≤ x ∧ x < K then mc M x else 0) := fun v hv => hR.set Z _ (fun y hy => by
                            by_cases e : y = Z
                            · subst e; rw [if_pos rfl, if_pos (by omega)]; exact hv
                            · rw [if_neg e]
                              by_cases e2 : Z + 1 ≤ y ∧ y < K
                              · rw [if_pos e2, if_pos (by omega)]
                              · rw [if_neg e2, if_neg (by omega)])
                          rcases hOs.out.1.last with ⟨m4, S', hS', o1, o2⟩ | ⟨m4, o1, o2⟩
                          · rw [m4] at q1
                            have hN : Hid _ := hset _ o2
                            have hO2 : Hid (Os a b M (P' / 4) S' Z ∧ S' ≤ ns ∧ Z ≤ K ∧ P' / 4 < 18446744073709551616) := ⟨o1, by have := hOs.out.2.1; omega, by omega, by have := hOs.out.2.2.2; omega⟩
                            have hSn : S' < ns := by have := hOs.out.2.1; omega
                            have e5 := (hS.below hR.bel).p1
                            have e6 := (hS.below hR.bel).cc S' hSn
                            have i2 : (S' : Int) < ns := by omega
                            subst hS'
                            clear hset m4 o1 o2 hOs
                            go_wp2
                            go_roundw
                            case rel => exact ⟨P' / 4, S', Z, by go_num, by go_num, by go_num, hN.out, hO2⟩
                            case measure => simp [intOf]
                          · have hN : Hid _ := hset _ o2
                            have hO2 : Hid (Os a b M (P' / 4) S Z ∧ S ≤ ns ∧ Z ≤ K ∧ P' / 4 < 18446744073709551616) := ⟨o1, hOs.out.2.1, by omega, by have := hOs.out.2.2.2; omega⟩
                            have q2 : (((P' % 4 : Nat) : Int) == 0) = false := by rw [beq_eq_false_iff_ne]; omega
                            generalize hy : ((P' % 4 : Nat) : Int) = Y at q1 q2
                            clear hset m4 o1 o2 hOs hy
                            go_wp2
                            go_roundw
                            case rel => exact ⟨P' / 4, S, Z, by go_num, by go_num, by go_num, hN.out, hO2⟩
                            case measure => simp [intOf]
                case rest =>
                  clear hR
                  have hR := hcut
                  have hKn : Hid (K ≤ nl) := hO.out.kle
                  have hids : Hid (∀ z, z < nl → mi M z = u z) := hO.out.ids
                  have hlen : Hid (M.length = nl) := hO.out.len
                  have hrest : Hid (∀ z, K ≤ z → z < nl → mc M z = a z) := hO.out.rest
                  clear hO
                  by_cases hlt : K < nl
                  · have i1 : (K : Int) < nl := by omega
                    have i2 : (K : Int) ≤ nl := by omega
                    have i3 : ¬ nl = K := by omega
                    have e1 := (hL.below hR.bel).p1
                    have hcp : ∀ ty, (Builtin.copy_ #[23, 23] ty #[.slice (some ⟨w.heap.size, K, none⟩) (nl - K) (nl - K), .slice (some ⟨cl, K, none⟩) (nl - K) (nl - K)]).run Try.prog wc.drew = .ok (goInt ((nl - K : Nat) : Int)) (wc.drew.setCells w.heap.size K (us (fun t => a (K + t)) (nl - K))) := fun ty => by
                      have := run_copy_cells (P := Try.prog) wc.drew 23 23 ty 26 w.heap.size K (nl - K) (nl - K) ⟨cl, K, none⟩ (nl - K) (nl - K) (us (fun t => a (K + t)) (nl - K)) Try.underlying23 size26 (by rw [us_length]; exact (Nat.min_self _).symm)
                        (fun j v hj => by obtain ⟨hj', rfl⟩ := us_get hj; rw [Addr.add_lit]; exact (hL.below hR.bel).cc (K + j) (by omega))
                        (fun j hj => by rw [us_length] at hj; show (wc.cell? _).isSome = true; rw [hR.row.cell (show K + j < nl by omega)]; rfl) (fun j _ => hR.row.frozen (K + j)) us_one
                      rw [us_length] at this
                      exact this
                    have hR2 := RC.sets (nl - K) K (fun t => a (K + t)) _ _ (hR.drewN 1)
                    have e2 := (hL.below hR2.bel).p0
                    have e3 : ((wc.drew).setCells w.heap.size K (us (fun t => a (K + t)) (nl - K))).cell? ⟨bl, 0, none⟩ = some (.slice (some ⟨il, 0, none⟩) nl nl) := e2
                    have hR3 : Hid (RC w (wc.drew.setCells w.heap.size K (us (fun t => a (K + t)) (nl - K))) nl _) := hR2
                    clear e2 hR2
                    generalize wc.drew.setCells w.heap.size K (us (fun t => a (K + t)) (nl - K)) = wz at hcp e3 hR3
                    go_wp2_with fail
                    go_region
                    clear hcp
                    go_wp2_with fail
                    (try simp only [Exit.noGoto])
                    go_ret2
                    refine ⟨il, 0, nl, w.heap.size, 0, nl, by rw [hlen.out]; rfl, fun z hz => ?_, fun z hz => ?_, hR3.out.bel⟩
                    · rw [hlen.out] at hz
                      rw [Nat.zero_add, hids.out z hz]
                      exact (hL.below hR3.out.bel).ci z hz
                    · rw [hlen.out] at hz
                      rw [Nat.zero_add, hR3.out.row.cell hz]
                      by_cases hzK : z < K
                      · rw [if_neg (by omega), if_pos hzK]
                      · rw [if_pos (by omega), hrest.out z (by omega) hz, show K + (z - K) = z by omega]
                  · have i1 : decide ((K : Int) < nl) = false := by simp; omega
                    have e1 := (hL.below hR.bel).p0
                    go_wp2_with fail
                    (try simp only [Exit.noGoto])
                    go_ret2
                    refine ⟨il, 0, nl, w.heap.size, 0, nl, by rw [hlen.out]; rfl, fun z hz => ?_, fun z hz => ?_, hR.bel⟩
                    · rw [hlen.out] at hz
                      rw [Nat.zero_add, hids.out z hz]
                      exact (hL.below hR.bel).ci z hz
                    · rw [hlen.out] at hz
                      rw [Nat.zero_add, hR.row.cell hz, if_pos (by omega)]
            · have hVt : VS = true := by cases VS <;> simp at hb ⊢
              have hWt : WS = true := by cases WS <;> simp at hb ⊢
              subst hVt hWt
              clear hb hVS hWS hSv hSw hDb
              have e1 := EE.pv0
              have e2 := EE.pv1
              have e3 := EE.pw0
              have e4 := EE.pw1
              have hIn := hI.out.1.hi
              have hJm := hI.out.1.hj
              go_upto_region 44 with fail
              go_cut [22, 23] from 249 to 260 (fun r rc wx => DW w wx ∧ ∃ a1 a2 : Option Addr, r = .slice a1 (n - I) (n - I) ∧ rc = .slice a2 (n - I) (n - I) ∧ Hid (0 < n - I → a1 = some ⟨bfi, I, none⟩ ∧ a2 = some ⟨bfc, I, none⟩))
              case first =>
                by_cases h1 : I < n
                · have d1 : ¬ n = I := by omega
                  have d2 : (I : Int) ≤ n := by omega
                  go_wp2_with fail
                  go_quiet (fail)
                  go_wp2_with fail
                  go_meet
                  case rel => exact ⟨hD.drewN _, _, _, rfl, rfl, fun _ => ⟨rfl, rfl⟩⟩
                · have h2 : n = I := by omega
                  subst h2
                  go_wp2_with fail
                  go_quiet (fail)
                  go_wp2_with fail
                  go_meet
                  case rel => exact ⟨hD.drewN _, some ⟨bfi, 0, none⟩, some ⟨bfc, 0, none⟩, by simp, by simp, fun h => by omega⟩
              case rest =>
                clear hD EE e1 e2 e3 e4
                obtain ⟨hD, x1, x2, rfl, rfl, hX⟩ := hcut
                have EE := hD.env E
                have e3 := EE.pw0
                have e4 := EE.pw1
                go_upto_if 267 with fail
                go_cut [22, 23] from 261 to 279 (fun r rc wx => DW w wx ∧ ∃ (q : Nat) (a1 a2 : Option Addr), r = .slice a1 q q ∧ rc = .slice a2 q q ∧ q ≤ 16 ∧ Hid (M.length = K + q) ∧
                  Hid (0 < q → ∃ bs os, a1 = some ⟨bs, os, none⟩ ∧ bs < w.heap.size ∧ ∀ i, i < q → w.cell? ⟨bs, os + i, none⟩ = some (.string (mi M (K + i)))) ∧
                  Hid (0 < q → ∃ bs os, a2 = some ⟨bs, os, none⟩ ∧ bs < w.heap.size ∧ ∀ i, i < q → w.cell? ⟨bs, os + i, none⟩ = some (.int .u64 (mc M (K + i)))))
                case first =>
                  by_cases h1 : J < m
                  · have hin : n = I := by have := hx.out; omega
                    have hW := (show ML f fc n g gc m M n J K by have := hI.out.1; rw [← hin] at this; exact this).endW
                    have d1 : (J : Int) < m := by omega
                    have d2 : (J : Int) ≤ m := by omega
                    have d3 : ¬ m = J := by omega
                    have r1 : Hid (M.length = K + (m - J)) := hW.2
                    have r2 : Hid (0 < m - J → ∃ bs os, (some ⟨bgi, J, none⟩ : Option Addr) = some ⟨bs, os, none⟩ ∧ bs < w.heap.size ∧ ∀ i, i < m - J → w.cell? ⟨bs, os + i, none⟩ = some (.string (mi M (K + i)))) :=
                      fun _ => ⟨bgi, J, rfl, hA.2.2.2.2.1, fun i hi => by rw [mi_of (hW.1 i hi)]; exact E.wi (J + i) (by omega)⟩
                    have r3 : Hid (0 < m - J → ∃ bs os, (some ⟨bgc, J, none⟩ : Option Addr) = some ⟨bs, os, none⟩ ∧ bs < w.heap.size ∧ ∀ i, i < m - J → w.cell? ⟨bs, os + i, none⟩ = some (.int .u64 (mc M (K + i)))) :=
                      fun _ => ⟨bgc, J, rfl, hA.2.2.2.2.2, fun i hi => by rw [mc_of (hW.1 i hi)]; exact E.wc (J + i) (by omega)⟩
                    clear hW hin hX
                    go_wp2_with fail
                    go_quiet (fail)
                    go_wp2_with fail
                    go_meet
                    case rel => exact ⟨hD.drewN _, m - J, _, _, rfl, rfl, by omega, r1, r2, r3⟩
                  · have hjm : J = m := by omega
                    have hV := hI.out.1.endV (.inr hjm)
                    have hW := hV.2.endW.2
                    have d1 : decide ((J : Int) < m) = false := by simp; omega
                    have r1 : Hid (M.length = K + (n - I)) := by show _ = _; omega
                    have r2 : Hid (0 < n - I → ∃ bs os, x1 = some ⟨bs, os, none⟩ ∧ bs < w.heap.size ∧ ∀ i, i < n - I → w.cell? ⟨bs, os + i, none⟩ = some (.string (mi M (K + i)))) :=
                      fun h => ⟨bfi, I, (hX.out h).1, hA.2.2.1, fun i hi => by rw [mi_of (hV.1 i hi)]; exact E.vi (I + i) (by omega)⟩
                    have r3 : Hid (0 < n - I → ∃ bs os, x2 = some ⟨bs, os, none⟩ ∧ bs < w.heap.size ∧ ∀ i, i < n - I → w.cell? ⟨bs, os + i, none⟩ = some (.int .u64 (mc M (K + i)))) :=
                      fun h => ⟨bfc, I, (hX.out h).2, hA.2.2.2.1, fun i hi => by rw [mc_of (hV.1 i hi)]; exact E.vc (I + i) (by omega)⟩
                    clear hW hV hjm hX
                    go_wp2_with fail
                    go_meet
                    case rel => exact ⟨hD, n - I, _, _, rfl, rfl, by omega, r1, r2, r3⟩
                case rest =>
                  clear hD EE e3 e4 hX
                  obtain ⟨hD, q, a1, a2, rfl, rfl, hq, hlen, s1, s2⟩ := hcut
                  obtain ⟨T, hT⟩ : ∃ T, Hid (T = K + q) := ⟨_, rfl⟩
                  have hT2 : T ≤ 48 := by have := hT.out; have := hK.out; omega
                  have hTi : (K : Int) + q = (T : Int) := by have := hT.out; omega
                  have hKT : Hid (K ≤ 32) := hK
                  have hK32 : K ≤ 32 := hK.out
                  go_wp2_with fail
                  refine (newl_any T (by omega) _).mono ?_
                  rintro e w' ⟨b1, o1, c1, b2, o2, c2, rfl, hNL⟩
                  obtain ⟨A, hR⟩ := Rz.made (M := M) hD hNL
                  clear hNL hD hTi
                  have HP := putEntries b1 o1 c1 b2 o2 c2 T K q q q w.heap.size A.k1 A.k2 (by omega) (by have := hT.out; omega) (Nat.le_refl _) a1 a2 (fun i => mi M (K + i)) (fun i => mc M (K + i)) w'
                    (fun h => by obtain ⟨bs, os, h1, h2, h3⟩ := s1.out h; exact ⟨bs, os, h1, h2, fun i hi => (hR.bel.cell (p := ⟨bs, os + i, none⟩) h2).trans (h3 i hi)⟩)
                    (fun h => by obtain ⟨bs, os, h1, h2, h3⟩ := s2.out h; exact ⟨bs, os, h1, h2, fun i hi => (hR.bel.cell (p := ⟨bs, os + i, none⟩) h2).trans (h3 i hi)⟩)
                    A.l1 A.l2 A.ap hR.d1 hR.d2 hR.f1 hR.f2
                  clear s1 s2
                  go_wp2_with fail
                  refine HP.mono ?_
                  rintro e w2 ⟨rfl, hPE⟩
                  have hR2 : Rz w w2 M T b1 o1 b2 o2 K := Rz.put (q := q) A (by rw [← hT.out]; exact hR) (by have := hT.out; omega) hPE
                  have hB : Hid (Bk f fc g gc M P I J K ∧ I ≤ n ∧ J ≤ m ∧ P < 18446744073709551616 ∧ K ≤ T) := ⟨hI.out.2, hIn, hJm, hPb.out, by have := hT.out; omega⟩
                  have hTM : Hid (M.length = T) := by show _ = _; rw [hlen.out, hT.out]
                  clear HP hPE hR hI hlen hT hKT hPb hIn hJm hx
                  go_wp2_with fail
                  go_loopw [7, 8, 9, 26] (fun i j p z wr => ∃ I J P Z : Nat, i = .int .i64 I ∧ j = .int .i64 J ∧ p = .int .u64 P ∧ z = .int .i64 ((Z : Int) - 1) ∧ Rz w wr M T b1 o1 b2 o2 Z ∧ Hid (Bk f fc g gc M P I J Z ∧ I ≤ n ∧ J ≤ m ∧ P < 18446744073709551616 ∧ Z ≤ T)) (fun _ _ _ z _ => (intOf z + 1).toNat)
                  case atStart => exact ⟨I, J, P, K, rfl, rfl, rfl, by go_num, hR2, hB⟩
                  case round =>
                    clear hR2 hB
                    obtain ⟨I, J, P, Z, rfl, rfl, rfl, rfl, hR, hB⟩ := hrel
                    cases Z with
                    | zero =>
                      have hz : ((0 : Nat) : Int) - 1 = -1 := rfl
                      rw [hz]
                      go_wp2_with fail
                      (try simp only [Exit.noGoto])
                      go_ret2
                      exact ⟨b1, o1, c1, b2, o2, c2, by rw [hTM.out]; rfl, fun z h => hR.s z (Nat.zero_le _) (hTM.out ▸ h), fun z h => hR.u z (Nat.zero_le _) (hTM.out ▸ h), hR.bel⟩
                    | succ Z =>
                      have hz : ((Z + 1 : Nat) : Int) - 1 = (Z : Int) := by omega
                      rw [hz]
                      have hZT : Z < T := by have := hB.out.2.2.2.2; omega
                      have EE := E.below hA hR.bel
                      have i0 : (0 : Int) ≤ Z := by omega
                      have i1 : (Z : Int) < T := by omega
                      have q1 := and3 hB.out.2.2.2.1
                      obtain ⟨v1, hv1⟩ := Option.isSome_iff_exists.1 (hR.d1 Z hZT)
                      obtain ⟨v2, hv2⟩ := Option.isSome_iff_exists.1 (hR.d2 Z hZT)
                      have hf1 := hR.f1 Z hZT
                      have hf2 := hR.f2 Z hZT
                      have hv3 : ∀ x, (wr.setCell ⟨b1, o1 + Z, none⟩ (.string x)).cell? ⟨b2, o2 + Z, none⟩ = some v2 := fun x => (cellO (w := wr) (by intro e; have := A.ap e; omega)).trans hv2
                      rcases hB.out.1.last with ⟨m4, i', j', rfl, rfl, o3, -, hM3⟩ | ⟨m4, i', rfl, o3, hM3⟩ | ⟨m4, j', rfl, o3, hM3⟩
                      · as_aux_lemma =>
                          rw [m4] at q1
                          have hN : Hid (Rz w ((wr.setCell ⟨b1, o1 + Z, none⟩ (.string (f i'))).setCell ⟨b2, o2 + Z, none⟩ (.int .u64 (max (fc i') (gc j')))).drew M T b1 o1 b2 o2 Z) := (hR.put1 A hZT hM3).drewN 1
                          have hB2 : Hid (Bk f fc g gc M (P / 4) i' j' Z ∧ i' ≤ n ∧ j' ≤ m ∧ P / 4 < 18446744073709551616 ∧ Z ≤ T) := ⟨o3, by have := hB.out.2.1; omega, by have := hB.out.2.2.1; omega, by have := hB.out.2.2.2.1; omega, by omega⟩
                          have hi' : i' < n := by have := hB.out.2.1; omega
                          have hj' : j' < m := by have := hB.out.2.2.1; omega
                          have e1 := EE.pv0
                          have e2 := EE.pv1
                          have e3 := EE.pw1
                          have e4 := EE.vi i' hi'
                          have e5 := EE.vc i' hi'
                          have e6 := EE.wc j' hj'
                          have i2 : (i' : Int) < n := by omega
                          have i3 : (j' : Int) < m := by omega
                          clear hB m4 o3 hM3 EE
                          go_wp2_with fail
                          go_region
                          go_wp2
                          go_roundw
                          case rel => exact ⟨i', j', P / 4, Z, by go_num, by go_num, by go_num, by go_num, hN.out, hB2⟩
                          case measure => simp [intOf]
                      · as_aux_lemma =>
                          rw [m4] at q1
                          have hN : Hid (Rz w ((wr.setCell ⟨b1, o1 + Z, none⟩ (.string (f i'))).setCell ⟨b2, o2 + Z, none⟩ (.int .u64 (fc i'))).drew M T b1 o1 b2 o2 Z) := (hR.put1 A hZT hM3).drewN 1
                          have hB2 : Hid (Bk f fc g gc M (P / 4) i' J Z ∧ i' ≤ n ∧ J ≤ m ∧ P / 4 < 18446744073709551616 ∧ Z ≤ T) := ⟨o3, by have := hB.out.2.1; omega, hB.out.2.2.1, by have := hB.out.2.2.2.1; omega, by omega⟩
                          have hi' : i' < n := by have := hB.out.2.1; omega
                          have e1 := EE.pv0
                          have e2 := EE.pv1
                          have e4 := EE.vi i' hi'
                          have e5 := EE.vc i' hi'
                          have i2 : (i' : Int) < n := by omega
                          clear hB m4 o3 hM3 EE
                          go_wp2_with fail
                          go_region
                          go_wp2
                          go_roundw
                          case rel => exact ⟨i', J, P / 4, Z, by go_num, by go_num, by go_num, by go_num, hN.out, hB2⟩
                          case measure => simp [intOf]
                      · as_aux_lemma =>
                          rw [m4] at q1
                          have hN : Hid (Rz w ((wr.setCell ⟨b1, o1 + Z, none⟩ (.string (g j'))).setCell ⟨b2, o2 + Z, none⟩ (.int .u64 (gc j'))).drew M T b1 o1 b2 o2 Z) := (hR.put1 A hZT hM3).drewN 1
                          have hB2 : Hid (Bk f fc g gc M (P / 4) I j' Z ∧ I ≤ n ∧ j' ≤ m ∧ P / 4 < 18446744073709551616 ∧ Z ≤ T) := ⟨o3, hB.out.2.1, by have := hB.out.2.2.1; omega, by have := hB.out.2.2.2.1; omega, by omega⟩
                          have hj' : j' < m := by have := hB.out.2.2.1; omega
                          have e1 := EE.pw0
                          have e2 := EE.pw1
                          have e4 := EE.wi j' hj'
                          have e5 := EE.wc j' hj'
                          have i2 : (j' : Int) < m := by omega
                          clear hB m4 o3 hM3 EE
                          go_wp2_with fail
                          go_region
                          go_wp2
                          go_roundw
                          case rel => exact ⟨I, j', P / 4, Z, by go_num, by go_num, by go_num, by go_num, hN.out, hB2⟩
                          case measure => simp [intOf]
end Go.Proofs.Qxb6601531a
