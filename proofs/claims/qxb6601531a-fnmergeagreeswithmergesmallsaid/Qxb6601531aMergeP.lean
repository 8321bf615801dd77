import Derived.Test.Qxb6601531aPutE
import Derived.Test.Qxb6601531aSeekF
import Derived.Test.Qxb6601531aMi
import Derived.Test.Qxb6601531aNewL
import Derived.Test.Qxb6601531aPb
namespace Go.Proofs.Qxb6601531a
open Go.RowKit

/-- The two vectors in memory. -/
structure Env (w : World) (bv bw bfi bfc bgi bgc n m : Nat) (f : Nat → ByteArray) (fc : Nat → Int) (g : Nat → ByteArray) (gc : Nat → Int) : Prop where
  pv0 : w.cell? ⟨bv, 0, none⟩ = some (.slice (some ⟨bfi, 0, none⟩) n n)
  pv1 : w.cell? ⟨bv, 1, none⟩ = some (.slice (some ⟨bfc, 0, none⟩) n n)
  pw0 : w.cell? ⟨bw, 0, none⟩ = some (.slice (some ⟨bgi, 0, none⟩) m m)
  pw1 : w.cell? ⟨bw, 1, none⟩ = some (.slice (some ⟨bgc, 0, none⟩) m m)
  vi : ∀ i, i < n → w.cell? ⟨bfi, i, none⟩ = some (.string (f i))
  vc : ∀ i, i < n → w.cell? ⟨bfc, i, none⟩ = some (.int .u64 (fc i))
  wi : ∀ i, i < m → w.cell? ⟨bgi, i, none⟩ = some (.string (g i))
  wc : ∀ i, i < m → w.cell? ⟨bgc, i, none⟩ = some (.int .u64 (gc i))

theorem grownBy_trans {w a b : World} {r : Option Nat} (h : w.grownBy a r) (k : a.grownBy b r) : w.grownBy b r :=
  ⟨k.os.trans h.os, k.tape.trans h.tape, k.output.trans h.output, Nat.le_trans h.size k.size, fun i hi hr => (k.block i (Nat.lt_of_lt_of_le hi h.size) hr).trans (h.block i hi hr)⟩

/-- The blocks of the two vectors are old and none of them is the buffer's. -/
def Ap (w : World) (bb bv bw bfi bfc bgi bgc : Nat) : Prop := (bv < w.heap.size ∧ bv ≠ bb) ∧ (bw < w.heap.size ∧ bw ≠ bb) ∧ (bfi < w.heap.size ∧ bfi ≠ bb) ∧ (bfc < w.heap.size ∧ bfc ≠ bb) ∧ (bgi < w.heap.size ∧ bgi ≠ bb) ∧ (bgc < w.heap.size ∧ bgc ≠ bb)

theorem cell_grown {w a : World} {bb b o : Nat} (h : w.grownBy a (some bb)) (hb : b < w.heap.size ∧ b ≠ bb) : a.cell? ⟨b, o, none⟩ = w.cell? ⟨b, o, none⟩ :=
  World.cell?_of_block (h.block b hb.1 (by intro e; injection e with e; exact hb.2 e))

theorem MI.onlyW {f g : Nat → ByteArray} {fc gc : Nat → Int} {n m : Nat} {M : List Ent} {vo : Bool} {i j k : Nat} (h : MI f fc n g gc m M vo true i j k) : MI f fc n g gc m M false true i j k := by
  cases vo with
  | false => exact h
  | true => exact absurd ⟨rfl, rfl⟩ h.one
theorem MI.onlyV {f g : Nat → ByteArray} {fc gc : Nat → Int} {n m : Nat} {M : List Ent} {wo : Bool} {i j k : Nat} (h : MI f fc n g gc m M true wo i j k) : MI f fc n g gc m M true false i j k := by
  cases wo with
  | false => exact h
  | true => exact absurd ⟨rfl, rfl⟩ h.one

section
variable {bv bw bfi bfc bgi bgc n m bb L : Nat} {f g : Nat → ByteArray} {fc gc : Nat → Int} {w : World}

theorem Env.kept {a : World} (E : Env w bv bw bfi bfc bgi bgc n m f fc g gc) (hA : Ap w bb bv bw bfi bfc bgi bgc) (h : w.grownBy a (some bb)) : Env a bv bw bfi bfc bgi bgc n m f fc g gc := by
  obtain ⟨h1, h2, h3, h4, h5, h6⟩ := hA
  exact ⟨(cell_grown h h1).trans E.pv0, (cell_grown h h1).trans E.pv1, (cell_grown h h2).trans E.pw0, (cell_grown h h2).trans E.pw1, fun i hi => (cell_grown h h3).trans (E.vi i hi), fun i hi => (cell_grown h h4).trans (E.vc i hi),
    fun i hi => (cell_grown h h5).trans (E.wi i hi), fun i hi => (cell_grown h h6).trans (E.wc i hi)⟩

/-- The buffer after k of M's counters. -/
structure Buf (w wr : World) (bb L : Nat) (M : List Ent) (ob : Nat → Int) (k : Nat) : Prop where
  cell : ∀ x, x < L → wr.cell? ⟨bb, x, none⟩ = some (.int .u64 (if x < k then mc M x else ob x))
  fr : ∀ x, x < L → wr.frozen? ⟨bb, x, none⟩ = false
  gr : w.grownBy wr (some bb)
  size : wr.heap.size = w.heap.size
  pl : PlainB wr bb

theorem Buf.drewN {wr : World} {M : List Ent} {ob : Nat → Int} {k : Nat} (h : Buf w wr bb L M ob k) (q : Nat) : Buf w (wr.drewN q) bb L M ob k :=
  ⟨h.cell, h.fr, ⟨h.gr.os, h.gr.tape, h.gr.output, h.gr.size, h.gr.block⟩, h.size, h.pl⟩
theorem Buf.drew {wr : World} {M : List Ent} {ob : Nat → Int} {k : Nat} (h : Buf w wr bb L M ob k) : Buf w wr.drew bb L M ob k := h.drewN 1

theorem grown_setCells (b : Nat) : ∀ (vs : List Value) (o : Nat) (w : World), w.grownBy (w.setCells b o vs) (some b) ∧ (w.setCells b o vs).heap.size = w.heap.size
  | [], o, w => ⟨⟨rfl, rfl, rfl, Nat.le_refl _, fun _ _ _ => rfl⟩, rfl⟩
  | v :: vs, o, w => by
    have ih := grown_setCells b vs (o + 1) (w.setCell ⟨b, o, none⟩ v)
    have h0 : w.grownBy (w.setCell ⟨b, o, none⟩ v) (some b) := ⟨rfl, rfl, rfl, by simp, fun k _ hk => Below.heap_setCell w ⟨b, o, none⟩ v k (by intro e; exact hk (congrArg some e))⟩
    exact ⟨grownBy_trans h0 ih.1, by rw [World.setCells, ih.2]; simp⟩

theorem Buf.put {wr : World} {M : List Ent} {ob : Nat → Int} {k : Nat} (h : Buf w wr bb L M ob k) (q : Nat) (hq : k + q ≤ L) (u : Nat → Int) (hu : ∀ t, t < q → mc M (k + t) = u t) : Buf w (wr.setCells bb (0 + k) (us u q)) bb L M ob (k + q) := by
  rw [Nat.zero_add]
  have hg := grown_setCells bb (us u q) k wr
  refine ⟨fun x hx => ?_, fun x hx => by rw [World.frozen?_setCells]; exact h.fr x hx, grownBy_trans h.gr hg.1, by rw [hg.2]; exact h.size, PlainB.setCells _ _ _ h.pl⟩
  by_cases hin : k ≤ x ∧ x < k + q
  · have hj : x - k < (us u q).length := by rw [us_length]; omega
    have := World.cell?_setCells_in bb (us u q) k wr (fun j hj => by rw [us_length] at hj; rw [h.cell (k + j) (by omega)]; rfl) (x - k) hj
    rw [show k + (x - k) = x by omega] at this
    rw [this, if_pos (by omega)]
    have e := hu (x - k) (by omega)
    rw [show k + (x - k) = x by omega] at e
    rw [e]
    simp [us]
  · rw [World.cell?_setCells_out bb (us u q) k wr _ (fun _ _ => by rw [us_length]; show x < k ∨ k + q ≤ x; omega), h.cell x hx]
    by_cases h2 : x < k
    · rw [if_pos h2, if_pos (by omega)]
    · rw [if_neg h2, if_neg (by omega)]

theorem Buf.some {wr : World} {M : List Ent} {ob : Nat → Int} {k : Nat} (h : Buf w wr bb L M ob k) (i : Nat) (hi : i < L) : (wr.cell? ⟨bb, 0 + i, none⟩).isSome = true := by rw [Nat.zero_add, h.cell i hi]; rfl
theorem Buf.fr0 {wr : World} {M : List Ent} {ob : Nat → Int} {k : Nat} (h : Buf w wr bb L M ob k) (i : Nat) (hi : i < L) : wr.frozen? ⟨bb, 0 + i, none⟩ = false := by rw [Nat.zero_add]; exact h.fr i hi

theorem Buf.putC0 {wr : World} {M : List Ent} {ob : Nat → Int} {k : Nat} (h : Buf w wr bb L M ob k) (hL : L ≤ 1048576) (q c : Nat) (hq : k + q ≤ L) (ao : Option Addr) (u : Nat → Int)
    (hsrc : 0 < q → ∃ bs os, ao = Option.some ⟨bs, os, none⟩ ∧ ∀ i, i < q → wr.cell? ⟨bs, os + i, none⟩ = Option.some (.int .u64 (u i))) (hu : ∀ t, t < q → ∃ x, M[k + t]? = Option.some (x, u t)) :
    Calls Try.prog 39 #[.slice (Option.some ⟨bb, 0, none⟩) L L, .int .i64 k, .slice ao q c] wr fun e w' => e = .returned (.int .i64 ((k : Int) + q)) ∧ Buf w w' bb L M ob (k + q) :=
  (putCounters bb 0 L L k q c (Nat.le_refl _) hL hq ao u wr hsrc h.some h.fr0).mono (fun _ _ ⟨h1, h2⟩ => ⟨h1, by rw [h2]; exact h.put q hq u (fun i hi => by obtain ⟨x, hx⟩ := hu i hi; exact mc_of hx)⟩)

theorem Buf.putC {wr : World} {M : List Ent} {ob : Nat → Int} {k : Nat} (h : Buf w wr bb L M ob k) (hL : L ≤ 1048576) (q c : Nat) (hq : k + q ≤ L) (ao : Option Addr) (u : Nat → Int)
    (hsrc : 0 < q → ∃ bs os, ao = Option.some ⟨bs, os, none⟩ ∧ ∀ i, i < q → wr.cell? ⟨bs, os + i, none⟩ = Option.some (.int .u64 (u i))) (hu : ∀ t, t < q → ∃ x, M[k + t]? = Option.some (x, u t)) (t : Nat) :
    Calls Try.prog 39 #[.slice (Option.some ⟨bb, 0, none⟩) L L, .int .i64 k, .slice ao q c] (wr.drewN t) fun e w' => e = .returned (.int .i64 ((k : Int) + q)) ∧ Buf w w' bb L M ob (k + q) :=
  (h.drewN t).putC0 hL q c hq ao u hsrc hu

theorem Buf.put1 {wr : World} {M : List Ent} {ob : Nat → Int} {k : Nat} (h : Buf w wr bb L M ob k) (hk : k < L) (u : Int) (hu : mc M k = u) : Buf w (wr.setCell ⟨bb, k, none⟩ (.int .u64 u)) bb L M ob (k + 1) := by
  have := h.put 1 (by omega) (fun _ => u) (fun t ht => by rw [show k + t = k by omega]; exact hu)
  rw [Nat.zero_add] at this
  exact this
end


/-! ### The second walk -/
section
variable {f g : Nat → ByteArray} {fc gc : Nat → Int} {n m : Nat} {M : List Ent} {i j k : Nat}
/-- What merge's second walk keeps. -/
structure ML (f : Nat → ByteArray) (fc : Nat → Int) (n : Nat) (g : Nat → ByteArray) (gc : Nat → Int) (m : Nat) (M : List Ent) (i j k : Nat) : Prop where
  hi : i ≤ n
  hj : j ≤ m
  rest : M.drop k = mu (ents f fc n i) (ents g gc m j)
  kle : k ≤ M.length

theorem ML.len (h : ML f fc n g gc m M i j k) : M.length ≤ k + (n - i) + (m - j) := by
  have h1 := congrArg List.length h.rest
  have h2 := mu_length_le (ents f fc n i) (ents g gc m j)
  rw [ents_length, ents_length] at h2
  rw [List.length_drop] at h1
  omega

theorem MI.ml {vo wo : Bool} (h : MI f fc n g gc m M vo wo i j k) : ML f fc n g gc m M i j k := ⟨h.hi, h.hj, h.rest, h.kle⟩

theorem ML.getEq (h : ML f fc n g gc m M i j k) (hi : i < n) (hj : j < m) (he : (f i).toList = (g j).toList) : M[k]? = some (f i, max (fc i) (gc j)) ∧ ML f fc n g gc m M (i + 1) (j + 1) (k + 1) := by
  have hr : M.drop k = [(f i, max (fc i) (gc j))] ++ mu (ents f fc n (i + 1)) (ents g gc m (j + 1)) := by rw [h.rest, ents_cons hi, ents_cons hj, mu_eq he]; rfl
  have := drop_app hr
  have h1 := this.1 0 _ rfl
  have hl := lt_of_get h1
  exact ⟨h1, by omega, by omega, this.2, by omega⟩

theorem ML.getV (h : ML f fc n g gc m M i j k) (hj : j < m) {q : Nat} (hq : i < q) (hqn : q ≤ n) (hr : ∀ x, i ≤ x → x < q → (f x).toList < (g j).toList) :
    (∀ t, t < q - i → M[k + t]? = some (f (i + t), fc (i + t))) ∧ ML f fc n g gc m M q j (k + (q - i)) := by
  have hh : M.drop k = seg f fc i (q - i) ++ mu (ents f fc n q) (ents g gc m j) := by
    rw [h.rest, ents_cons hj, mu_run_left (q - i) i (by omega) (fun x h1 h2 => hr x h1 (by omega)), show i + (q - i) = q by omega]
  have := drop_app hh
  rw [seg_length] at this
  have h1 := fun t ht => this.1 t _ (seg_get ht)
  have hl := lt_of_get (h1 (q - i - 1) (by omega))
  exact ⟨h1, hqn, h.hj, this.2, by omega⟩

theorem ML.getW (h : ML f fc n g gc m M i j k) (hi : i < n) {q : Nat} (hq : j < q) (hqn : q ≤ m) (hr : ∀ x, j ≤ x → x < q → (g x).toList < (f i).toList) :
    (∀ t, t < q - j → M[k + t]? = some (g (j + t), gc (j + t))) ∧ ML f fc n g gc m M i q (k + (q - j)) := by
  have hh : M.drop k = seg g gc j (q - j) ++ mu (ents f fc n i) (ents g gc m q) := by
    rw [h.rest, ents_cons hi, mu_run_right (q - j) j (by omega) (fun x h1 h2 => hr x h1 (by omega)), show j + (q - j) = q by omega]
  have := drop_app hh
  rw [seg_length] at this
  have h1 := fun t ht => this.1 t _ (seg_get ht)
  have hl := lt_of_get (h1 (q - j - 1) (by omega))
  exact ⟨h1, h.hi, hqn, this.2, by omega⟩

/-- One side is through: the rest of v, then the rest of w. -/
theorem ML.endV (h : ML f fc n g gc m M i j k) (he : i = n ∨ j = m) : (∀ t, t < n - i → M[k + t]? = some (f (i + t), fc (i + t))) ∧ ML f fc n g gc m M n j (k + (n - i)) := by
  by_cases hn : i = n
  · subst hn
    exact ⟨fun t ht => by omega, by rw [Nat.sub_self, Nat.add_zero]; exact h⟩
  · have hj : j = m := by omega
    have hh : M.drop k = seg f fc i (n - i) ++ [] := by rw [h.rest, hj, ents_nil (f := g) (Nat.le_refl m), mu_nil_right, ents_seg, List.append_nil]
    have := drop_app hh
    rw [seg_length] at this
    have h1 := fun t ht => this.1 t _ (seg_get ht)
    have hl := lt_of_get (h1 (n - i - 1) (by have := h.hi; omega))
    exact ⟨h1, Nat.le_refl _, h.hj, by rw [this.2, ents_nil (Nat.le_refl n), hj, ents_nil (Nat.le_refl m)]; rfl, by have := h.hi; omega⟩

theorem ML.endW (h : ML f fc n g gc m M n j k) : (∀ t, t < m - j → M[k + t]? = some (g (j + t), gc (j + t))) ∧ M.length = k + (m - j) := by
  have hh : M.drop k = seg g gc j (m - j) ++ [] := by rw [h.rest, ents_nil (Nat.le_refl _), mu_nil, ents_seg, List.append_nil]
  have hd := drop_app hh
  rw [seg_length] at hd
  refine ⟨fun t ht => hd.1 t _ (seg_get ht), ?_⟩
  have := congrArg List.length hh
  simp [seg_length] at this
  have := h.kle
  omega
end

/-- The lists that newLists has laid, k entries of M in them. -/
structure Rw (w wr : World) (bb L X : Nat) (ob : Nat → Int) (M : List Ent) (T b1 o1 b2 o2 k : Nat) : Prop where
  gr : w.grownBy wr (some bb)
  s : ∀ i, i < k → wr.cell? ⟨b1, o1 + i, none⟩ = some (.string (mi M i))
  u : ∀ i, i < k → wr.cell? ⟨b2, o2 + i, none⟩ = some (.int .u64 (mc M i))
  d1 : ∀ i, i < T → (wr.cell? ⟨b1, o1 + i, none⟩).isSome = true
  d2 : ∀ i, i < T → (wr.cell? ⟨b2, o2 + i, none⟩).isSome = true
  f1 : ∀ i, i < T → wr.frozen? ⟨b1, o1 + i, none⟩ = false
  f2 : ∀ i, i < T → wr.frozen? ⟨b2, o2 + i, none⟩ = false
  buf : ∀ x, X ≤ x → x < L → wr.cell? ⟨bb, x, none⟩ = some (.int .u64 (ob x))
  pl : PlainB wr bb

/-- Where the lists lie. -/
structure At (w : World) (bb T b1 o1 c1 b2 o2 c2 : Nat) : Prop where
  lb : bb < w.heap.size
  l1 : w.heap.size ≤ b1
  l2 : w.heap.size ≤ b2
  ap : b1 = b2 → o1 + T ≤ o2
  k1 : T ≤ c1
  k2 : T ≤ c2

section
variable {w wr : World} {bb L X : Nat} {ob : Nat → Int} {M : List Ent} {T b1 o1 c1 b2 o2 c2 k : Nat}

theorem Rw.drewN (h : Rw w wr bb L X ob M T b1 o1 b2 o2 k) (q : Nat) : Rw w (wr.drewN q) bb L X ob M T b1 o1 b2 o2 k :=
  ⟨⟨h.gr.os, h.gr.tape, h.gr.output, h.gr.size, h.gr.block⟩, h.s, h.u, h.d1, h.d2, h.f1, h.f2, h.buf, h.pl⟩

theorem Rw.drew (h : Rw w wr bb L X ob M T b1 o1 b2 o2 k) : Rw w wr.drew bb L X ob M T b1 o1 b2 o2 k := h.drewN 1

theorem grown_of_below {w a : World} {r : Option Nat} (h : Below w.heap.size w a) : w.grownBy a r := ⟨h.os, h.tape, h.output, h.size, fun i hi _ => h.block i hi⟩

theorem Rw.put (A : At w bb T b1 o1 c1 b2 o2 c2) (h : Rw w wr bb L X ob M T b1 o1 b2 o2 k) {q : Nat} (hq : k + q ≤ T) {f : Nat → ByteArray} {g : Nat → Int} (hM : ∀ t, t < q → M[k + t]? = some (f t, g t)) {w' : World}
    (p : PE wr w' w.heap.size b1 (o1 + k) b2 (o2 + k) q f g) : Rw w w' bb L X ob M T b1 o1 b2 o2 (k + q) := by
  have hl := A.lb
  have hl1 := A.l1
  have hl2 := A.l2
  refine ⟨⟨p.wr.bel.os.trans h.gr.os, p.wr.bel.tape.trans h.gr.tape, p.wr.bel.output.trans h.gr.output, by rw [p.wr.size]; exact h.gr.size, fun i hi hr => (p.wr.bel.block i hi).trans (h.gr.block i hi hr)⟩, fun i hi => ?_, fun i hi => ?_, fun i hi => ?_, fun i hi => ?_,
    fun i hi => by rw [p.wr.fr]; exact h.f1 i hi, fun i hi => by rw [p.wr.fr]; exact h.f2 i hi, fun x h1 h2 => by rw [p.wr.keep bb x (fun e => by omega) (fun e => by omega)]; exact h.buf x h1 h2, h.pl.of_block (p.wr.bel.block bb hl)⟩
  · by_cases e : i < k
    · rw [p.wr.keep b1 (o1 + i) (fun _ => by omega) (fun e => by have := A.ap e; omega)]; exact h.s i e
    · have := p.s (i - k) (by omega)
      rw [show o1 + k + (i - k) = o1 + i by omega] at this
      have e2 := mi_of (hM (i - k) (by omega))
      rw [show k + (i - k) = i by omega] at e2
      rw [this, e2]
  · by_cases e : i < k
    · rw [p.wr.keep b2 (o2 + i) (fun e => by have := A.ap e.symm; omega) (fun _ => by omega)]; exact h.u i e
    · have := p.u (i - k) (by omega)
      rw [show o2 + k + (i - k) = o2 + i by omega] at this
      have e2 := mc_of (hM (i - k) (by omega))
      rw [show k + (i - k) = i by omega] at e2
      rw [this, e2]
  · by_cases e : i < k ∨ k + q ≤ i
    · rw [p.wr.keep b1 (o1 + i) (fun _ => by omega) (fun e => by have := A.ap e; omega)]; exact h.d1 i hi
    · have := p.s (i - k) (by omega)
      rw [show o1 + k + (i - k) = o1 + i by omega] at this
      rw [this]; rfl
  · by_cases e : i < k ∨ k + q ≤ i
    · rw [p.wr.keep b2 (o2 + i) (fun e => by have := A.ap e.symm; omega) (fun _ => by omega)]; exact h.d2 i hi
    · have := p.u (i - k) (by omega)
      rw [show o2 + k + (i - k) = o2 + i by omega] at this
      rw [this]; rfl

theorem Rw.putC0 (A : At w bb T b1 o1 c1 b2 o2 c2) (hT : T ≤ 1048576) (h : Rw w wr bb L X ob M T b1 o1 b2 o2 k) (q r1 r2 : Nat) (hq : k + q ≤ T) (hr : q ≤ r2) (a1 a2 : Option Addr) (f : Nat → ByteArray) (g : Nat → Int)
    (hs1 : 0 < q → ∃ bs os, a1 = some ⟨bs, os, none⟩ ∧ bs < w.heap.size ∧ ∀ i, i < q → wr.cell? ⟨bs, os + i, none⟩ = some (.string (f i)))
    (hs2 : 0 < q → ∃ bs os, a2 = some ⟨bs, os, none⟩ ∧ bs < w.heap.size ∧ ∀ i, i < q → wr.cell? ⟨bs, os + i, none⟩ = some (.int .u64 (g i)))
    (hM : ∀ t, t < q → M[k + t]? = some (f t, g t)) :
    Calls Try.prog 36 #[.slice (some ⟨b1, o1, none⟩) T c1, .slice (some ⟨b2, o2, none⟩) T c2, .int .i64 k, .slice a1 q r1, .slice a2 q r2] wr fun e w' => e = .returned (.int .i64 ((k : Int) + q)) ∧ Rw w w' bb L X ob M T b1 o1 b2 o2 (k + q) :=
  (putEntries b1 o1 c1 b2 o2 c2 T k q r1 r2 w.heap.size A.k1 A.k2 hT hq hr a1 a2 f g wr hs1 hs2 A.l1 A.l2 A.ap h.d1 h.d2 h.f1 h.f2).mono (fun _ _ ⟨h1, h2⟩ => ⟨h1, h.put A hq hM h2⟩)

/-- newLists, called behind the first walk. -/
theorem Buf.newRw {w' : World} {K : Nat} (h : Buf w wr bb L M ob K) (hb : bb < w.heap.size) (hX : K ≤ X) (p : NL wr w' T b1 o1 c1 b2 o2 c2) : At w bb T b1 o1 c1 b2 o2 c2 ∧ Rw w w' bb L X ob M T b1 o1 b2 o2 0 ∧ (∀ x, x < L → w'.cell? ⟨bb, x, none⟩ = wr.cell? ⟨bb, x, none⟩) := by
  have hs := h.size
  have hk : ∀ x, w'.cell? ⟨bb, x, none⟩ = wr.cell? ⟨bb, x, none⟩ := fun x => World.cell?_of_block (p.below.block bb (by omega))
  exact ⟨⟨hb, by have := p.lo1; omega, by have := p.lo2; omega, p.apart, p.cap1, p.cap2⟩,
    ⟨grownBy_trans h.gr (grown_of_below p.below), fun i hi => by omega, fun i hi => by omega, fun i hi => by rw [p.s i hi]; rfl, fun i hi => by rw [p.u i hi]; rfl, p.fs, p.fu, fun x h1 h2 => by rw [hk, h.cell x h2, if_neg (by omega)], h.pl.of_block (p.below.block bb (by omega))⟩, fun x _ => hk x⟩
end

theorem tot_wrap {K n m I J : Nat} (h1 : K ≤ 1048576) (h2 : n ≤ 1048576) (h3 : m ≤ 1048576) (hI : I ≤ n) (hJ : J ≤ m) :
    IntKind.i64.wrap (IntKind.i64.wrap (IntKind.i64.wrap (IntKind.i64.wrap ((K : Int) + n) - I) + m) - J) = ((K + (n - I) + (m - J) : Nat) : Int) := by
  rw [IntWalk.i64_in ((K : Int) + n) (by omega), IntWalk.i64_in ((K : Int) + n - I) (by omega), IntWalk.i64_in ((K : Int) + n - I + m) (by omega), IntWalk.i64_in ((K : Int) + n - I + m - J) (by omega)]
  omega

theorem get_mi {M : List Ent} {t : Nat} (h : t < M.length) : M[t]? = some (mi M t, mc M t) := by simp [mi, mc, h]

/-- Behind newLists: the entries so far, from the one side's ids and from the buffer. -/
theorem Rw.before {w wr wx : World} {bb L X K bx cx : Nat} {ob : Nat → Int} {M : List Ent} {T b1 o1 c1 b2 o2 c2 : Nat} (A : At w bb T b1 o1 c1 b2 o2 c2) (hT : T ≤ 1048576) (hB : Buf w wr bb L M ob K) (h : Rw w wx bb L X ob M T b1 o1 b2 o2 0)
    (hk : ∀ x, x < L → wx.cell? ⟨bb, x, none⟩ = wr.cell? ⟨bb, x, none⟩) (hbx : bx < w.heap.size ∧ bx ≠ bb) (hs : ∀ t, t < K → wr.cell? ⟨bx, t, none⟩ = some (.string (mi M t))) (hKL : K ≤ L) (hKT : K ≤ T) (hKM : K ≤ M.length) :
    Calls Try.prog 36 #[.slice (some ⟨b1, o1, none⟩) T c1, .slice (some ⟨b2, o2, none⟩) T c2, .int .i64 0, .slice (some ⟨bx, 0, none⟩) K cx, .slice (some ⟨bb, 0, none⟩) K L] wx fun e w' => e = .returned (.int .i64 K) ∧ Rw w w' bb L X ob M T b1 o1 b2 o2 K := by
  have := h.putC0 A hT K cx L (by omega) hKL (some ⟨bx, 0, none⟩) (some ⟨bb, 0, none⟩) (mi M) (mc M)
    (fun _ => ⟨bx, 0, rfl, hbx.1, fun i hi => by rw [Nat.zero_add, cell_grown h.gr hbx, ← cell_grown hB.gr hbx]; exact hs i hi⟩)
    (fun _ => ⟨bb, 0, rfl, A.lb, fun i hi => by rw [Nat.zero_add, hk i (by omega), hB.cell i (by omega), if_pos hi]⟩)
    (fun t ht => by rw [Nat.zero_add]; exact get_mi (by omega))
  refine Calls.mono this (fun e w' ⟨h1, h2⟩ => ⟨h1.trans ?_, by rwa [Nat.zero_add] at h2⟩)
  simp

theorem Rw.put1 {w wr : World} {bb L X k : Nat} {ob : Nat → Int} {M : List Ent} {T b1 o1 c1 b2 o2 c2 : Nat} (A : At w bb T b1 o1 c1 b2 o2 c2) (h : Rw w wr bb L X ob M T b1 o1 b2 o2 k) (hk : k < T) {x : ByteArray} {u : Int} (hM : M[k]? = some (x, u)) {w' : World}
    (p : PE wr w' w.heap.size b1 (o1 + k) b2 (o2 + k) 1 (fun _ => x) (fun _ => u)) : Rw w w' bb L X ob M T b1 o1 b2 o2 (k + 1) :=
  h.put A (by omega) (fun t ht => by rw [show k + t = k by omega]; exact hM) p

/-! ### What merge answers -/
/-- w holds every id of v. -/
def MRw (w w' : World) (bb L bgi n m : Nat) (f g : Nat → ByteArray) (M : List Ent) (ob : Nat → Int) (e : Ending) : Prop :=
  e = .returned (.tuple #[.slice (some ⟨bgi, 0, none⟩) m m, .slice none 0 0]) ∧ M.length = m ∧ (∀ y, y < m → mi M y = g y) ∧ (∀ x, x < n → ∃ y, y < m ∧ (f x).toList = (g y).toList) ∧ Buf w w' bb L M ob m
/-- Each lacks an id of the other: lists of their own. -/
def MRx (w w' : World) (bb L n m : Nat) (f g : Nat → ByteArray) (M : List Ent) (ob : Nat → Int) (e : Ending) : Prop :=
  ∃ T b1 o1 c1 b2 o2 c2, e = .returned (.tuple #[.slice (some ⟨b1, o1, none⟩) M.length c1, .slice (some ⟨b2, o2, none⟩) M.length c2]) ∧ M.length ≤ T ∧ At w bb T b1 o1 c1 b2 o2 c2 ∧ Rw w w' bb L (max n m) ob M T b1 o1 b2 o2 M.length ∧ Lacks f n g m ∧ Lacks g m f n
def MR (w w' : World) (bb L bfi bgi n m : Nat) (f g : Nat → ByteArray) (M : List Ent) (ob : Nat → Int) (e : Ending) : Prop :=
  MRw w w' bb L bgi n m f g M ob e ∨ MRw w w' bb L bfi m n g f M ob e ∨ MRx w w' bb L n m f g M ob e
end Go.Proofs.Qxb6601531a
