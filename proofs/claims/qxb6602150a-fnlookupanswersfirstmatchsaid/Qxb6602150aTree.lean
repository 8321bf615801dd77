import Derived.Test.Qxb6602150aProg
import Derived.WalkKit
import Derived.WalkLawsBesides
import Derived.WalkSpells
import Derived.Outline
import Derived.Deep.OwnRows
import Derived.Deep.QuietTactic
import Derived.BigQuiet
import Derived.BigRegion
namespace Go.Proofs.Qxb6602150a
open Go.RowKit

/-! ### The tree of arguments, as data -/
structure Tk where
  k : ByteArray
  t : ByteArray
  o : Int
inductive Ag where
  | z : Ag
  | mk : ByteArray → Bool → Nat → (Nat → Ag) → Bool → Nat → (Nat → Tk) → Int → Ag
def Ag.name : Ag → ByteArray | .z => ⟨#[]⟩ | .mk x _ _ _ _ _ _ _ => x
def Ag.an : Ag → Bool | .z => true | .mk _ x _ _ _ _ _ _ => x
def Ag.n : Ag → Nat | .z => 0 | .mk _ _ x _ _ _ _ _ => x
def Ag.gs : Ag → Nat → Ag | .z => fun _ => .z | .mk _ _ _ x _ _ _ _ => x
def Ag.vn : Ag → Bool | .z => true | .mk _ _ _ _ x _ _ _ => x
def Ag.m : Ag → Nat | .z => 0 | .mk _ _ _ _ _ x _ _ => x
def Ag.ts : Ag → Nat → Tk | .z => fun _ => ⟨⟨#[]⟩, ⟨#[]⟩, 0⟩ | .mk _ _ _ _ _ _ x _ => x
def Ag.off : Ag → Int | .z => 0 | .mk _ _ _ _ _ _ _ x => x
instance : Inhabited Ag := ⟨.z⟩
instance : Inhabited Tk := ⟨⟨⟨#[]⟩, ⟨#[]⟩, 0⟩⟩

/-- The slice v of tokens (nil where nl) reads as ts 0 .. ts (m-1) in w, all its cells in blocks of S. -/
def RdT (w : World) (S : Nat → Prop) (v : Value) (nl : Bool) (m : Nat) (ts : Nat → Tk) : Prop :=
  (nl = true ∧ m = 0 ∧ v = .slice none 0 0) ∨ (nl = false ∧ ∃ ad c, v = .slice (some ad) m c ∧ ∀ i, i < m → ∃ b o, ad = ⟨b, o, none⟩ ∧ S b ∧
      w.cell? ⟨b, o + i * 3, none⟩ = some (.string (ts i).k) ∧ w.cell? ⟨b, o + i * 3 + 1, none⟩ = some (.string (ts i).t) ∧ w.cell? ⟨b, o + i * 3 + 2, none⟩ = some (.int .i64 (ts i).o))

/-- The slice v of arguments (nil where nl) reads as ga 0 .. ga (n-1) in w, at most d deep, all its cells in blocks of S. -/
def RdA (w : World) (S : Nat → Prop) : Nat → Value → Bool → Nat → (Nat → Ag) → Prop
  | 0, _, _, _, _ => False
  | d + 1, v, nl, n, ga => (nl = true ∧ n = 0 ∧ v = .slice none 0 0) ∨ (nl = false ∧ ∃ ad c, v = .slice (some ad) n c ∧ ∀ i, i < n → ∃ b o va vv, ad = ⟨b, o, none⟩ ∧ S b ∧
      w.cell? ⟨b, o + i * 4, none⟩ = some (.string (ga i).name) ∧ w.cell? ⟨b, o + i * 4 + 1, none⟩ = some va ∧ w.cell? ⟨b, o + i * 4 + 2, none⟩ = some vv ∧ w.cell? ⟨b, o + i * 4 + 3, none⟩ = some (.int .i64 (ga i).off) ∧
      RdA w S d va (ga i).an (ga i).n (ga i).gs ∧ RdT w S vv (ga i).vn (ga i).m (ga i).ts)

theorem RdT.frame {w w' : World} {S S' : Nat → Prop} {v : Value} {nl : Bool} {m : Nat} {ts : Nat → Tk} (h : RdT w S v nl m ts) (k : ∀ b, S b → w'.heap[b]? = w.heap[b]? ∧ S' b) : RdT w' S' v nl m ts := by
  rcases h with h | ⟨h0, ad, c, hv, h⟩
  · exact .inl h
  · refine .inr ⟨h0, ad, c, hv, fun i hi => ?_⟩
    obtain ⟨b, o, h1, h2, h3, h4, h5⟩ := h i hi
    have e := fun x => World.cell?_of_block (a := ⟨b, x, none⟩) (k b h2).1
    exact ⟨b, o, h1, (k b h2).2, (e _).trans h3, (e _).trans h4, (e _).trans h5⟩

theorem RdA.frame {w w' : World} {S S' : Nat → Prop} (k : ∀ b, S b → w'.heap[b]? = w.heap[b]? ∧ S' b) : ∀ {d : Nat} {v : Value} {nl : Bool} {n : Nat} {ga : Nat → Ag}, RdA w S d v nl n ga → RdA w' S' d v nl n ga := by
  intro d
  induction d with
  | zero => intro _ _ _ _ h; exact h.elim
  | succ d ih =>
    intro v nl n ga h
    rcases h with h | ⟨h0, ad, c, hv, h⟩
    · exact .inl h
    · refine .inr ⟨h0, ad, c, hv, fun i hi => ?_⟩
      obtain ⟨b, o, va, vv, h1, h2, h3, h4, h5, h6, h7, h8⟩ := h i hi
      have e := fun x => World.cell?_of_block (a := ⟨b, x, none⟩) (k b h2).1
      exact ⟨b, o, va, vv, h1, (k b h2).2, (e _).trans h3, (e _).trans h4, (e _).trans h5, (e _).trans h6, ih h7, h8.frame k⟩

/-- Every list of the tree is of at most a million elements. -/
def BdA : Nat → Nat → (Nat → Ag) → Prop
  | 0, _, _ => True
  | d + 1, n, ga => n ≤ 1048576 ∧ ∀ i, i < n → BdA d (ga i).n (ga i).gs ∧ (ga i).m ≤ 1048576

/-- An element's two slices. -/
def El (w : World) (S : Nat → Prop) (d : Nat) (va vv : Value) (a : Ag) : Prop := RdA w S d va a.an a.n a.gs ∧ RdT w S vv a.vn a.m a.ts
theorem El.frame {w w' : World} {S S' : Nat → Prop} {d : Nat} {va vv : Value} {a : Ag} (h : El w S d va vv a) (k : ∀ b, S b → w'.heap[b]? = w.heap[b]? ∧ S' b) : El w' S' d va vv a := ⟨h.1.frame k, h.2.frame k⟩

/-- The blocks from N on below H; those below N. -/
def Bt (N H b : Nat) : Prop := N ≤ b ∧ b < H
def Dn (N b : Nat) : Prop := b < N

/-- f copies an element; f copies a list. -/
def CE (f d : Nat) : Prop := ∀ (w : World) (a : Ag) (va vv : Value), El w (Dn w.heap.size) d va vv a → BdA d a.n a.gs → a.m ≤ 1048576 →
  Calls Try.prog f #[.agg #[.string a.name, va, vv, .int .i64 a.off]] w fun e w' => ∃ va' vv', e = .returned (.agg #[.string a.name, va', vv', .int .i64 a.off]) ∧ El w' (Bt w.heap.size w'.heap.size) d va' vv' a ∧ Below w.heap.size w w'
def CL (f d : Nat) : Prop := ∀ (w : World) (v : Value) (nl : Bool) (n : Nat) (ga : Nat → Ag), RdA w (Dn w.heap.size) d v nl n ga → BdA d n ga →
  Calls Try.prog f #[v] w fun e w' => ∃ v', e = .returned v' ∧ RdA w' (Bt w.heap.size w'.heap.size) d v' nl n ga ∧ Below w.heap.size w w'

/-- m tokens' row at block N, j of them laid. -/
structure Row3 (w : World) (N m j : Nat) (ts : Nat → Tk) : Prop where
  c : ∀ i, i < j → w.cell? ⟨N, i * 3, none⟩ = some (.string (ts i).k) ∧ w.cell? ⟨N, i * 3 + 1, none⟩ = some (.string (ts i).t) ∧ w.cell? ⟨N, i * 3 + 2, none⟩ = some (.int .i64 (ts i).o)
  s : ∀ x, x < m * 3 → (w.cell? ⟨N, x, none⟩).isSome = true
  f : ∀ x, w.frozen? ⟨N, x, none⟩ = false

theorem cellO {w : World} {b o b' o' : Nat} {v : Value} (h : b = b' → o ≠ o') : (w.setCell ⟨b, o, none⟩ v).cell? ⟨b', o', none⟩ = w.cell? ⟨b', o', none⟩ :=
  World.cell?_setCell_other _ _ _ _ (by intro e; injection e with e1 e2; exact h e1 e2)
theorem cellS {w : World} {b o : Nat} {v : Value} (h : (w.cell? ⟨b, o, none⟩).isSome = true) : (w.setCell ⟨b, o, none⟩ v).cell? ⟨b, o, none⟩ = some v := by
  obtain ⟨u, hu⟩ := Option.isSome_iff_exists.1 h
  exact World.cell?_setCell_same _ _ _ hu
theorem cellB {w : World} {b o x : Nat} {v : Value} (h : (w.cell? ⟨b, x, none⟩).isSome = true) : ((w.setCell ⟨b, o, none⟩ v).cell? ⟨b, x, none⟩).isSome = true := by
  by_cases e : o = x
  · subst e; rw [cellS h]; rfl
  · rw [cellO (fun _ => e)]; exact h

/-- w with three cells set from o on. -/
def set3 (w : World) (N o : Nat) (v0 v1 v2 : Value) : World := ((w.setCell ⟨N, o, none⟩ v0).setCell ⟨N, o + 1, none⟩ v1).setCell ⟨N, o + 2, none⟩ v2
def set4 (w : World) (N o : Nat) (v0 v1 v2 v3 : Value) : World := (set3 w N o v0 v1 v2).setCell ⟨N, o + 3, none⟩ v3

theorem Row3.put {w : World} {N m j : Nat} {ts : Nat → Tk} (h : Row3 w N m j ts) (hj : j < m) : Row3 (set3 w N (j * 3) (.string (ts j).k) (.string (ts j).t) (.int .i64 (ts j).o)) N m (j + 1) ts := by
  have s0 := h.s (j * 3) (by omega)
  have s1 := h.s (j * 3 + 1) (by omega)
  have s2 := h.s (j * 3 + 2) (by omega)
  refine ⟨fun i hi => ?_, fun x hx => cellB (cellB (cellB (h.s x hx))), fun x => by simp [set3, h.f]⟩
  unfold set3
  by_cases e : i = j
  · subst e
    refine ⟨?_, ?_, ?_⟩
    · rw [cellO (fun _ => by omega), cellO (fun _ => by omega), cellS s0]
    · rw [cellO (fun _ => by omega), cellS (cellB s1)]
    · rw [cellS (cellB (cellB s2))]
  · obtain ⟨c0, c1, c2⟩ := h.c i (by omega)
    refine ⟨?_, ?_, ?_⟩
    · rw [cellO (fun _ => by omega), cellO (fun _ => by omega), cellO (fun _ => by omega)]; exact c0
    · rw [cellO (fun _ => by omega), cellO (fun _ => by omega), cellO (fun _ => by omega)]; exact c1
    · rw [cellO (fun _ => by omega), cellO (fun _ => by omega), cellO (fun _ => by omega)]; exact c2

theorem Row3.block {w w' : World} {N m j : Nat} {ts : Nat → Tk} (h : Row3 w N m j ts) (e : w'.heap[N]? = w.heap[N]?) : Row3 w' N m j ts :=
  ⟨fun i hi => by
    have k := fun x => World.cell?_of_block (a := ⟨N, x, none⟩) e
    obtain ⟨c0, c1, c2⟩ := h.c i hi
    exact ⟨(k _).trans c0, (k _).trans c1, (k _).trans c2⟩, fun x hx => by rw [World.cell?_of_block (a := ⟨N, x, none⟩) e]; exact h.s x hx, fun x => by rw [World.frozen?_of_block (w := w) e]; exact h.f x⟩

theorem Row3.rd {w : World} {N m : Nat} {ts : Nat → Tk} {S : Nat → Prop} (h : Row3 w N m m ts) (hS : S N) (c : Nat) : RdT w S (.slice (some ⟨N, 0, none⟩) m c) false m ts :=
  .inr ⟨rfl, _, c, rfl, fun i hi => by
    obtain ⟨c0, c1, c2⟩ := h.c i hi
    exact ⟨N, 0, rfl, hS, by rw [Nat.zero_add]; exact c0, by rw [Nat.zero_add]; exact c1, by rw [Nat.zero_add]; exact c2⟩⟩

/-- n elements' row at block N, j of them laid. -/
structure Row4 (w : World) (S : Nat → Prop) (d N n j : Nat) (ga : Nat → Ag) : Prop where
  c : ∀ i, i < j → ∃ va vv, w.cell? ⟨N, i * 4, none⟩ = some (.string (ga i).name) ∧ w.cell? ⟨N, i * 4 + 1, none⟩ = some va ∧ w.cell? ⟨N, i * 4 + 2, none⟩ = some vv ∧ w.cell? ⟨N, i * 4 + 3, none⟩ = some (.int .i64 (ga i).off) ∧ El w S d va vv (ga i)
  s : ∀ x, x < n * 4 → (w.cell? ⟨N, x, none⟩).isSome = true
  f : ∀ x, w.frozen? ⟨N, x, none⟩ = false

theorem heap_set3 {w : World} {N o b : Nat} {v0 v1 v2 : Value} (h : b ≠ N) : (set3 w N o v0 v1 v2).heap[b]? = w.heap[b]? := by
  unfold set3
  rw [Below.heap_setCell _ _ _ _ h, Below.heap_setCell _ _ _ _ h, Below.heap_setCell _ _ _ _ h]
theorem heap_set4 {w : World} {N o b : Nat} {v0 v1 v2 v3 : Value} (h : b ≠ N) : (set4 w N o v0 v1 v2 v3).heap[b]? = w.heap[b]? := by
  unfold set4
  rw [Below.heap_setCell _ _ _ _ h, heap_set3 h]

theorem Row4.put {w : World} {S : Nat → Prop} {d N n j : Nat} {ga : Nat → Ag} {va vv : Value} (h : Row4 w S d N n j ga) (hj : j < n) (hS : ¬ S N) (hE : El w S d va vv (ga j)) :
    Row4 (set4 w N (j * 4) (.string (ga j).name) va vv (.int .i64 (ga j).off)) S d N n (j + 1) ga := by
  have s0 := h.s (j * 4) (by omega)
  have s1 := h.s (j * 4 + 1) (by omega)
  have s2 := h.s (j * 4 + 2) (by omega)
  have s3 := h.s (j * 4 + 3) (by omega)
  have fr : ∀ b, S b → (set4 w N (j * 4) (.string (ga j).name) va vv (.int .i64 (ga j).off)).heap[b]? = w.heap[b]? ∧ S b := fun b hb => ⟨heap_set4 (by intro e; exact hS (e ▸ hb)), hb⟩
  refine ⟨fun i hi => ?_, fun x hx => cellB (cellB (cellB (cellB (h.s x hx)))), fun x => by simp [set4, set3, h.f]⟩
  by_cases e : i = j
  · subst e
    refine ⟨va, vv, ?_, ?_, ?_, ?_, hE.frame fr⟩ <;> unfold set4 set3
    · rw [cellO (fun _ => by omega), cellO (fun _ => by omega), cellO (fun _ => by omega), cellS s0]
    · rw [cellO (fun _ => by omega), cellO (fun _ => by omega), cellS (cellB s1)]
    · rw [cellO (fun _ => by omega), cellS (cellB (cellB s2))]
    · rw [cellS (cellB (cellB (cellB s3)))]
  · obtain ⟨xa, xv, c0, c1, c2, c3, c4⟩ := h.c i (by omega)
    refine ⟨xa, xv, ?_, ?_, ?_, ?_, c4.frame fr⟩ <;> unfold set4 set3
    · rw [cellO (fun _ => by omega), cellO (fun _ => by omega), cellO (fun _ => by omega), cellO (fun _ => by omega)]; exact c0
    · rw [cellO (fun _ => by omega), cellO (fun _ => by omega), cellO (fun _ => by omega), cellO (fun _ => by omega)]; exact c1
    · rw [cellO (fun _ => by omega), cellO (fun _ => by omega), cellO (fun _ => by omega), cellO (fun _ => by omega)]; exact c2
    · rw [cellO (fun _ => by omega), cellO (fun _ => by omega), cellO (fun _ => by omega), cellO (fun _ => by omega)]; exact c3

theorem Row4.frame {w w' : World} {S S' : Nat → Prop} {d N n j : Nat} {ga : Nat → Ag} (h : Row4 w S d N n j ga) (e : w'.heap[N]? = w.heap[N]?) (k : ∀ b, S b → w'.heap[b]? = w.heap[b]? ∧ S' b) : Row4 w' S' d N n j ga :=
  ⟨fun i hi => by
    have q := fun x => World.cell?_of_block (a := ⟨N, x, none⟩) e
    obtain ⟨xa, xv, c0, c1, c2, c3, c4⟩ := h.c i hi
    exact ⟨xa, xv, (q _).trans c0, (q _).trans c1, (q _).trans c2, (q _).trans c3, c4.frame k⟩, fun x hx => by rw [World.cell?_of_block (a := ⟨N, x, none⟩) e]; exact h.s x hx, fun x => by rw [World.frozen?_of_block (w := w) e]; exact h.f x⟩

theorem Row4.rd {w : World} {S S' : Nat → Prop} {d N n : Nat} {ga : Nat → Ag} (h : Row4 w S d N n n ga) (hN : S' N) (hS : ∀ b, S b → S' b) (c : Nat) : RdA w S' (d + 1) (.slice (some ⟨N, 0, none⟩) n c) false n ga :=
  .inr ⟨rfl, _, c, rfl, fun i hi => by
    obtain ⟨xa, xv, c0, c1, c2, c3, c4⟩ := h.c i hi
    have c5 := c4.frame (w' := w) (S' := S') fun b hb => ⟨rfl, hS b hb⟩
    exact ⟨N, 0, xa, xv, rfl, hN, by rw [Nat.zero_add]; exact c0, by rw [Nat.zero_add]; exact c1, by rw [Nat.zero_add]; exact c2, by rw [Nat.zero_add]; exact c3, c5.1, c5.2⟩⟩

theorem size_set3 {w : World} {N o : Nat} {v0 v1 v2 : Value} : (set3 w N o v0 v1 v2).heap.size = w.heap.size := by simp [set3]
theorem size_set4 {w : World} {N o : Nat} {v0 v1 v2 v3 : Value} : (set4 w N o v0 v1 v2 v3).heap.size = w.heap.size := by simp [set4, set3]

/-! ### New rows -/
theorem mk_rows {t e : TypeId} {z : Value} {size bytes : Nat} (ht : Try.prog.underlying t = some (.slice e)) (hinfo : (Try.prog.info? e).map (fun i => (i.zero, i.size, i.bytes)) = some (some z, size, bytes)) (hb : bytes ≤ 72) (n : Nat) (hn : n ≤ 1048576) (w : World) :
    (Instr.makeSlice t (.int .i64 (n : Int)) (.int .i64 (n : Int))).run Try.prog w = .ok (.slice (some ⟨w.heap.size, 0, none⟩) n n) (w.alloc (.cells (madeCells z.cells (n * size)) e)) := by
  obtain ⟨i, hi, hzz⟩ := Option.map_eq_some_iff.1 hinfo
  simp only [Prod.mk.injEq] at hzz
  obtain ⟨hz, hs, hbb⟩ := hzz
  have h1 : (i.bytes : Int) * n ≤ 281474976710656 := by
    have : i.bytes * n ≤ 72 * 1048576 := Nat.mul_le_mul (by omega) hn
    have h2 : ((i.bytes * n : Nat) : Int) ≤ 281474976710656 := by omega
    simpa using h2
  have := run_make (P := Try.prog) w t e i z ht hi hz .i64 .i64 n n (by omega) (by omega) h1 (by omega)
  rw [hs] at this
  simpa using this

theorem row_made (w : World) (z : Value) (N : Nat) (e : TypeId) : (w.alloc (.cells (madeCells z.cells N) e)).rowIs w.heap.size e N (fun i => z.cells[i % z.cells.size]!) :=
  ⟨_, Go.Deep.blk_alloc_new _ _, size_madeCells _ _, fun i hi => by simp [madeCells, hi]⟩
theorem Row3.made (w : World) (z : Value) (e : TypeId) (m : Nat) (ts : Nat → Tk) : Row3 (w.alloc (.cells (madeCells z.cells (m * 3)) e)) w.heap.size m 0 ts :=
  ⟨fun i hi => by omega, fun x hx => by rw [(row_made w z (m * 3) e).cell hx]; rfl, fun x => (row_made w z (m * 3) e).frozen x⟩
theorem Row4.made (w : World) (S : Nat → Prop) (d : Nat) (z : Value) (e : TypeId) (n : Nat) (ga : Nat → Ag) : Row4 (w.alloc (.cells (madeCells z.cells (n * 4)) e)) S d w.heap.size n 0 ga :=
  ⟨fun i hi => by omega, fun x hx => by rw [(row_made w z (n * 4) e).cell hx]; rfl, fun x => (row_made w z (n * 4) e).frozen x⟩

theorem info41 : (Try.prog.info? 41).map (fun i => (i.zero, i.size, i.bytes)) = some (some (.agg #[.string ⟨#[]⟩, .string ⟨#[]⟩, .int .i64 0]), 3, 40) := by kernel_rfl
theorem info51 : (Try.prog.info? 51).map (fun i => (i.zero, i.size, i.bytes)) = some (some (.agg #[.string ⟨#[]⟩, .string ⟨#[]⟩, .int .i64 0]), 3, 40) := by kernel_rfl
theorem info56 : (Try.prog.info? 56).map (fun i => (i.zero, i.size, i.bytes)) = some (some (.agg #[.string ⟨#[]⟩, .string ⟨#[]⟩, .int .i64 0]), 3, 40) := by kernel_rfl
theorem info27 : (Try.prog.info? 27).map (fun i => (i.zero, i.size, i.bytes)) = some (some (.agg #[.string ⟨#[]⟩, .slice none 0 0, .slice none 0 0, .int .i64 0]), 4, 72) := by kernel_rfl
theorem info31 : (Try.prog.info? 31).map (fun i => (i.zero, i.size, i.bytes)) = some (some (.agg #[.string ⟨#[]⟩, .slice none 0 0, .slice none 0 0, .int .i64 0]), 4, 72) := by kernel_rfl
theorem info46 : (Try.prog.info? 46).map (fun i => (i.zero, i.size, i.bytes)) = some (some (.agg #[.string ⟨#[]⟩, .slice none 0 0, .slice none 0 0, .int .i64 0]), 4, 72) := by kernel_rfl

set_option maxHeartbeats 1000000 in
theorem add11 (t n l : Nat) (ht : t ≤ l) (hn : n ≤ 4611686018427387904) (hl : l ≤ 1048576) (w : World) : Calls Try.prog 11 #[.int .i64 t, .int .i64 n, .int .i64 l] w fun e w' => e = .returned (.int .i64 (if t + n ≤ l then (t + n : Nat) else (l + 1 : Nat))) ∧ w' = w := by
  by_cases h : t + n ≤ l
  · rw [if_pos h]
    go_enter Try.func11, Try.ntmps11
    go_wp2
    go_ret
    exact ⟨by go_num, rfl⟩
  · rw [if_neg h]
    go_enter Try.func11, Try.ntmps11
    go_wp2
    go_ret
    exact ⟨by go_num, rfl⟩
end Go.Proofs.Qxb6602150a
