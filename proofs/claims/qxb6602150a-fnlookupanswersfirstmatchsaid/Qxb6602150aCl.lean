import Derived.Test.Qxb6602150aTree
import Derived.Deep.DeepCutAuto
import Derived.Deep.CutBlock
import Derived.Deep.RegionHeld3
namespace Go.Proofs.Qxb6602150a
open Go.RowKit

/-- The element's box and the result's cell, as a copying function has them. -/
structure Bx (w wr : World) (name : ByteArray) (va vv : Value) (off : Int) : Prop where
  b0 : wr.cell? ⟨w.heap.size, 0, none⟩ = some (.string name)
  b1 : wr.cell? ⟨w.heap.size, 1, none⟩ = some va
  b2 : wr.cell? ⟨w.heap.size, 2, none⟩ = some vv
  b3 : wr.cell? ⟨w.heap.size, 3, none⟩ = some (.int .i64 off)
  r : ∀ x, x < 4 → (wr.cell? ⟨w.heap.size + 1, x, none⟩).isSome = true
  f : ∀ x, wr.frozen? ⟨w.heap.size + 1, x, none⟩ = false
  bel : Below w.heap.size w wr
  sz : w.heap.size + 2 ≤ wr.heap.size

theorem Bx.of_blocks {w wr w' : World} {name : ByteArray} {va vv : Value} {off : Int} (h : Bx w wr name va vv off) (k : ∀ b, b < w.heap.size + 2 → w'.heap[b]? = wr.heap[b]?) (hb : Below w.heap.size w w') (hs : wr.heap.size ≤ w'.heap.size) : Bx w w' name va vv off := by
  have e0 := fun x => World.cell?_of_block (a := ⟨w.heap.size, x, none⟩) (k w.heap.size (by omega))
  have e1 := fun x => World.cell?_of_block (a := ⟨w.heap.size + 1, x, none⟩) (k (w.heap.size + 1) (by omega))
  exact ⟨(e0 _).trans h.b0, (e0 _).trans h.b1, (e0 _).trans h.b2, (e0 _).trans h.b3, fun x hx => by rw [e1]; exact h.r x hx, fun x => by rw [World.frozen?_of_block (w := wr) (k (w.heap.size + 1) (by omega))]; exact h.f x, hb, by have := h.sz; omega⟩

theorem Bx.start (w : World) (name : ByteArray) (va vv : Value) (off : Int) (t1 t2 : TypeId) (z0 z1 z2 z3 : Value) :
    Bx w ((w.alloc (.cells #[.string name, va, vv, .int .i64 off] t1)).alloc (.cells #[z0, z1, z2, z3] t2)) name va vv off := by
  have hA : ((w.alloc (.cells #[.string name, va, vv, .int .i64 off] t1)).alloc (.cells #[z0, z1, z2, z3] t2)).heap[w.heap.size]? = some (.cells #[.string name, va, vv, .int .i64 off] t1) :=
    (Go.Deep.blk_alloc_lt _ _ _ (by simp)).trans (Go.Deep.blk_alloc_new _ _)
  have e : (w.alloc (.cells #[.string name, va, vv, .int .i64 off] t1)).heap.size = w.heap.size + 1 := by simp
  have hB : ((w.alloc (.cells #[.string name, va, vv, .int .i64 off] t1)).alloc (.cells #[z0, z1, z2, z3] t2)).heap[w.heap.size + 1]? = some (.cells #[z0, z1, z2, z3] t2) := by
    rw [← e]
    exact Go.Deep.blk_alloc_new _ _
  refine ⟨by simp [World.cell?, hA], by simp [World.cell?, hA], by simp [World.cell?, hA], by simp [World.cell?, hA], fun x hx => ?_, fun x => by unfold World.frozen?; rw [hB]; simp, ((Below.refl _ _).alloc (Nat.le_refl _) _).alloc (by simp) _, by simp⟩
  simp only [World.cell?, hB]
  match x, hx with
  | 0, _ => rfl
  | 1, _ => rfl
  | 2, _ => rfl
  | 3, _ => rfl

theorem Bx.alloc {w wr : World} {name : ByteArray} {va vv : Value} {off : Int} (h : Bx w wr name va vv off) (o : Obj) : Bx w (wr.alloc o) name va vv off :=
  h.of_blocks (fun b hb => Go.Deep.blk_alloc_lt _ _ _ (by have := h.sz; omega)) (h.bel.alloc (by have := h.sz; omega) o) (by simp)

theorem Bx.set3 {w wr : World} {name : ByteArray} {va vv : Value} {off : Int} (h : Bx w wr name va vv off) {N o : Nat} (hN : w.heap.size + 2 ≤ N) (v0 v1 v2 : Value) : Bx w (Qxb6602150a.set3 wr N o v0 v1 v2) name va vv off :=
  h.of_blocks (fun b hb => heap_set3 (by omega)) (((h.bel.setCell (p := ⟨N, o, none⟩) (by show _ ≤ N; omega) v0).setCell (p := ⟨N, o + 1, none⟩) (by show _ ≤ N; omega) v1).setCell (p := ⟨N, o + 2, none⟩) (by show _ ≤ N; omega) v2) (by rw [size_set3]; exact Nat.le_refl _)

theorem Bx.call {w wr w' : World} {name : ByteArray} {va vv : Value} {off : Int} (h : Bx w wr name va vv off) (l : Below wr.heap.size wr w') : Bx w w' name va vv off :=
  h.of_blocks (fun b hb => l.block b (by have := h.sz; omega)) (h.bel.trans (l.mono (by have := h.sz; omega))) l.size

theorem RdT.form {w : World} {S : Nat → Prop} {v : Value} {nl : Bool} {m : Nat} {ts : Nat → Tk} (h : RdT w S v nl m ts) : ∃ x c, v = .slice x m c ∧ x.isNone = nl := by
  rcases h with ⟨rfl, rfl, rfl⟩ | ⟨rfl, ad, c, rfl, _⟩
  · exact ⟨none, 0, rfl, rfl⟩
  · exact ⟨some ad, c, rfl, rfl⟩
theorem RdA.form {w : World} {S : Nat → Prop} {v : Value} {nl : Bool} {d n : Nat} {ga : Nat → Ag} (h : RdA w S d v nl n ga) : ∃ x c, v = .slice x n c ∧ x.isNone = nl := by
  cases d with
  | zero => exact h.elim
  | succ d =>
    rcases h with ⟨rfl, rfl, rfl⟩ | ⟨rfl, ad, c, rfl, _⟩
    · exact ⟨none, 0, rfl, rfl⟩
    · exact ⟨some ad, c, rfl, rfl⟩

theorem RdT.mono {w : World} {S S' : Nat → Prop} {v : Value} {nl : Bool} {m : Nat} {ts : Nat → Tk} (h : RdT w S v nl m ts) (k : ∀ b, S b → S' b) : RdT w S' v nl m ts := h.frame fun b hb => ⟨rfl, k b hb⟩

theorem get4 {w : World} {N : Nat} {v0 v1 v2 v3 : Value} (h : ∀ x, x < 4 → (w.cell? ⟨N, x, none⟩).isSome = true) :
    (set4 w N 0 v0 v1 v2 v3).cell? ⟨N, 0, none⟩ = some v0 ∧ (set4 w N 0 v0 v1 v2 v3).cell? ⟨N, 1, none⟩ = some v1 ∧ (set4 w N 0 v0 v1 v2 v3).cell? ⟨N, 2, none⟩ = some v2 ∧ (set4 w N 0 v0 v1 v2 v3).cell? ⟨N, 3, none⟩ = some v3 := by
  have s0 := h 0 (by omega)
  have s1 := h 1 (by omega)
  have s2 := h 2 (by omega)
  have s3 := h 3 (by omega)
  unfold set4 set3
  refine ⟨?_, ?_, ?_, ?_⟩
  · rw [cellO (fun _ => by omega), cellO (fun _ => by omega), cellO (fun _ => by omega), cellS s0]
  · rw [cellO (fun _ => by omega), cellO (fun _ => by omega), cellS (cellB s1)]
  · rw [cellO (fun _ => by omega), cellS (cellB (cellB s2))]
  · rw [cellS (cellB (cellB (cellB s3)))]

theorem below_set4 {w wr : World} {B N o : Nat} (h : Below B w wr) (hN : B ≤ N) (v0 v1 v2 v3 : Value) : Below B w (set4 wr N o v0 v1 v2 v3) :=
  (((h.setCell (p := ⟨N, o, none⟩) hN v0).setCell (p := ⟨N, o + 1, none⟩) hN v1).setCell (p := ⟨N, o + 2, none⟩) hN v2).setCell (p := ⟨N, o + 3, none⟩) hN v3

/-- What a copying function answers, its result's cells written. -/
theorem fin4 {w wc w' : World} {d : Nat} {a : Ag} {va vv v' vt : Value} (hX : Bx w wc a.name va vv a.off) (hT2 : RdT wc (Bt (w.heap.size + 2) wc.heap.size) vt a.vn a.m a.ts) (l : Below wc.heap.size wc w')
    (hv : RdA w' (Bt wc.heap.size w'.heap.size) d v' a.an a.n a.gs) :
    El (set4 w' (w.heap.size + 1) 0 (.string a.name) v' vt (.int .i64 a.off)) (Bt w.heap.size (set4 w' (w.heap.size + 1) 0 (.string a.name) v' vt (.int .i64 a.off)).heap.size) d v' vt a ∧ Below w.heap.size w (set4 w' (w.heap.size + 1) 0 (.string a.name) v' vt (.int .i64 a.off)) := by
  have hs := l.size
  have hz := hX.sz
  refine ⟨⟨hv.frame fun b hb => ⟨heap_set4 (by have := hb.1; omega), ?_⟩, hT2.frame fun b hb => ⟨(heap_set4 (by have := hb.1; omega)).trans (l.block b hb.2), ?_⟩⟩, below_set4 (hX.call l).bel (by omega) _ _ _ _⟩
  · rw [size_set4]; exact ⟨by have := hb.1; omega, hb.2⟩
  · rw [size_set4]; exact ⟨by have := hb.1; omega, by have := hb.2; omega⟩

set_option maxRecDepth 100000 in
set_option maxHeartbeats 8000000 in
theorem ce12 (d : Nat) (H : CL 6 d) : CE 12 d := by
  intro w a va vv hE hB hm
  obtain ⟨x1, k1, rfl, hx1⟩ := hE.1.form
  obtain ⟨x2, k2, rfl, hx2⟩ := hE.2.form
  have hE : Hid (El w (Dn w.heap.size) d (.slice x1 a.n k1) (.slice x2 a.m k2) a) := hE
  obtain ⟨vn, hvn⟩ : ∃ b, Hid (b = a.vn) := ⟨_, rfl⟩
  have hq : ∀ w, (binOp .neq 25 (.slice x2 a.m k2) (.slice none 0 0)).run Try.prog w = .ok (.bool (!vn)) w := fun w => by rw [hvn.out, ← hx2]; exact run_neq_slice_nil_any w 25 41 x2 a.m k2 0 0 Try.underlying25
  have hmk := mk_rows Try.underlying25 info41 (by decide) a.m hm
  have hst := Bx.start w a.name (.slice x1 a.n k1) (.slice x2 a.m k2) a.off 27 27 (.string ⟨#[]⟩) (.slice none 0 0) (.slice none 0 0) (.int .i64 0)
  go_enter Try.func12, Try.ntmps12
  go_upto_if 7 with fail
  generalize ((w.alloc (.cells #[.string a.name, .slice x1 a.n k1, .slice x2 a.m k2, .int .i64 a.off] 27)).alloc (.cells #[.string ⟨#[]⟩, .slice none 0 0, .slice none 0 0, .int .i64 0] 27)) = w2 at *
  have e2 := hst.b2
  go_cut [3, 4] from 8 to 26 (fun v _ wx => Bx w wx a.name (.slice x1 a.n k1) (.slice x2 a.m k2) a.off ∧ RdT wx (Bt (w.heap.size + 2) wx.heap.size) v a.vn a.m a.ts)
  case first =>
    rcases hE.out.2 with ⟨h1, h2, h3⟩ | ⟨h1, ad, c, h3, h4⟩
    · have hv : vn = true := by rw [hvn.out]; exact h1
      subst hv
      have hr : Hid (RdT w2 (Bt (w.heap.size + 2) w2.heap.size) (.slice none 0 0) a.vn a.m a.ts) := .inl ⟨h1, h2, rfl⟩
      clear h1 h2 h3 hq hmk hvn hx2 hx1
      go_wp2_with fail
      go_meet
      case rel => exact ⟨hst, hr.out⟩
    · have hv : vn = false := by rw [hvn.out]; exact h1
      subst hv
      injection h3 with h3 h5 h6
      subst h3
      have h4 : Hid (∀ i, i < a.m → ∃ b o, ad = ⟨b, o, none⟩ ∧ Dn w.heap.size b ∧ w.cell? ⟨b, o + i * 3, none⟩ = some (.string (a.ts i).k) ∧ w.cell? ⟨b, o + i * 3 + 1, none⟩ = some (.string (a.ts i).t) ∧ w.cell? ⟨b, o + i * 3 + 2, none⟩ = some (.int .i64 (a.ts i).o)) := h4
      have hvn : Hid (a.vn = false) := h1
      have hR := Row3.made w2 (.agg #[.string ⟨#[]⟩, .string ⟨#[]⟩, .int .i64 0]) 41 a.m a.ts
      have hX := hst.alloc (.cells (madeCells (Value.agg #[.string ⟨#[]⟩, .string ⟨#[]⟩, .int .i64 0]).cells (a.m * 3)) 41)
      have hz : Hid (w2.heap.size < (w2.alloc (.cells (madeCells (Value.agg #[.string ⟨#[]⟩, .string ⟨#[]⟩, .int .i64 0]).cells (a.m * 3)) 41)).heap.size) := by show _ < _; simp
      have hNz : Hid (w.heap.size + 2 ≤ w2.heap.size) := hst.sz
      clear h1 h5 h6 hx1 hx2 hst
      go_wp2_with fail
      go_loopw [4] (fun i wr => ∃ j : Nat, i = .int .i64 j ∧ j ≤ a.m ∧ Row3 wr w2.heap.size a.m j a.ts ∧ Bx w wr a.name (.slice x1 a.n k1) (.slice (some ad) a.m k2) a.off ∧ Hid (w2.heap.size < wr.heap.size)) (fun i _ => a.m - (intOf i).toNat)
      case atStart => exact ⟨0, rfl, Nat.zero_le _, hR, hX, hz⟩
      case round =>
        clear hR hX hz e2
        obtain ⟨j, rfl, hj, hR, hX, hz⟩ := hrel
        have e2 := hX.b2
        by_cases hlt : j < a.m
        · obtain ⟨b, o, rfl, g0, g1, g2, g3⟩ := h4.out j hlt
          have q := fun x => hX.bel.cell (p := ⟨b, x, none⟩) g0
          replace g1 := (q _).trans g1
          replace g2 := (q _).trans g2
          replace g3 := (q _).trans g3
          obtain ⟨u0, s0⟩ := Option.isSome_iff_exists.1 (hR.s (j * 3) (by omega))
          obtain ⟨u1, s1⟩ := Option.isSome_iff_exists.1 (hR.s (j * 3 + 1) (by omega))
          obtain ⟨u2, s2⟩ := Option.isSome_iff_exists.1 (hR.s (j * 3 + 2) (by omega))
          have f := hR.f
          have i1 : (j : Int) < a.m := by omega
          have hR2 := hR.put hlt
          have hX2 := hX.set3 (N := w2.heap.size) (o := j * 3) hNz.out (.string (a.ts j).k) (.string (a.ts j).t) (.int .i64 (a.ts j).o)
          have hz2 : Hid (w2.heap.size < (set3 wr w2.heap.size (j * 3) (.string (a.ts j).k) (.string (a.ts j).t) (.int .i64 (a.ts j).o)).heap.size) := by show _ < _; rw [size_set3]; exact hz.out
          clear q h4
          go_wp2
          go_roundw
          case rel => exact ⟨j + 1, by go_num, by omega, hR2, hX2, hz2⟩
          case measure => simp [intOf]; omega
        · have i1 : decide ((j : Int) < a.m) = false := by simp; omega
          have hjm : j = a.m := by omega
          have hr : Hid (RdT wr (Bt (w.heap.size + 2) wr.heap.size) (.slice (some ⟨w2.heap.size, 0, none⟩) a.m a.m) a.vn a.m a.ts) := by
            rw [hvn.out]
            rw [hjm] at hR
            exact hR.rd ⟨by have := hNz.out; omega, hz.out⟩ _
          clear hjm h4
          go_wp2
          go_meet
          case rel => exact ⟨hX, hr.out⟩
  case rest =>
    clear hst e2 hq hmk
    obtain ⟨hX, hT⟩ := hcut
    obtain ⟨y, ky, rfl, -⟩ := hT.form
    have hA : RdA wc (Dn wc.heap.size) d (.slice x1 a.n k1) a.an a.n a.gs := hE.out.1.frame fun b hb => ⟨hX.bel.block b hb, Nat.lt_of_lt_of_le hb hX.bel.size⟩
    have c0 := hX.b0
    have c1 := hX.b1
    have c3 := hX.b3
    clear hE hx1 hx2 hvn
    have HC := H wc.drew _ _ _ _ (RdA.frame (w := wc) (w' := wc.drew) (S := Dn wc.heap.size) (S' := Dn wc.drew.heap.size) (fun b hb => ⟨rfl, hb⟩) hA) hB
    go_upto_region 8 with fail
    go_region_held3 (fun w' => w'.cell? ⟨w.heap.size, 0, none⟩ = some (.string a.name) ∧ w'.cell? ⟨w.heap.size, 1, none⟩ = some (.slice x1 a.n k1) ∧ w'.cell? ⟨w.heap.size, 3, none⟩ = some (.int .i64 a.off)) (go_keep)
      (first | (go_at_call 6; refine HC.mono ?_; rintro e w' ⟨v', rfl, hv', l⟩; obtain ⟨y', ky', rfl, -⟩ := hv'.form; have l' : Below wc.heap.size wc w' := ⟨l.os, l.tape, l.output, l.size, l.block⟩; have hX' := hX.call l'; have k0 := hX'.b0; have k1 := hX'.b1; have k3 := hX'.b3; have kf := hX'.f; obtain ⟨r0, hr0⟩ := Option.isSome_iff_exists.1 (hX'.r 0 (by omega)); obtain ⟨r1, hr1⟩ := Option.isSome_iff_exists.1 (hX'.r 1 (by omega)); obtain ⟨r2, hr2⟩ := Option.isSome_iff_exists.1 (hX'.r 2 (by omega)); obtain ⟨r3, hr3⟩ := Option.isSome_iff_exists.1 (hX'.r 3 (by omega))))
    all_goals
      have hfin := fin4 hX hT l' hv'
      have hg := get4 (v0 := .string a.name) (v1 := .slice y' a.n ky') (v2 := .slice y a.m ky) (v3 := .int .i64 a.off) hX'.r
      refine (?_ : Exit.then _ _ _ _ (set4 w' (w.heap.size + 1) 0 (.string a.name) (.slice y' a.n ky') (.slice y a.m ky) (.int .i64 a.off)))
      generalize set4 w' (w.heap.size + 1) 0 (.string a.name) (.slice y' a.n ky') (.slice y a.m ky) (.int .i64 a.off) = w9 at hfin hg ⊢
      obtain ⟨g0, g1, g2, g3⟩ := hg
      have hfin : Hid _ := hfin
      clear hr0 hr1 hr2 hr3 kf k0 k1 k3 hX' hX l l' hv' hT HC hA c0 c1 c3
      go_wp2_with fail
      refine bodyPost_ret (v := .agg #[.string a.name, .slice y' a.n ky', .slice y a.m ky, .int .i64 a.off]) (by simp [results, Try.results12, go_sem, g0, g1, g2, g3]) rfl ⟨_, _, rfl, hfin.out.1, hfin.out.2⟩
theorem Bx.drew {w wr : World} {name : ByteArray} {va vv : Value} {off : Int} (h : Bx w wr name va vv off) : Bx w wr.drew name va vv off :=
  h.of_blocks (fun _ _ => rfl) h.bel.drew (Nat.le_refl _)

set_option maxRecDepth 100000 in
set_option maxHeartbeats 8000000 in
theorem ce18 (d : Nat) (H : CL 14 d) : CE 18 d := by
  intro w a va vv hE hB hm
  obtain ⟨x1, k1, rfl, hx1⟩ := hE.1.form
  obtain ⟨x2, k2, rfl, hx2⟩ := hE.2.form
  have hE : Hid (El w (Dn w.heap.size) d (.slice x1 a.n k1) (.slice x2 a.m k2) a) := hE
  obtain ⟨vn, hvn⟩ : ∃ b, Hid (b = a.vn) := ⟨_, rfl⟩
  have hq : ∀ w, (binOp .neq 29 (.slice x2 a.m k2) (.slice none 0 0)).run Try.prog w = .ok (.bool (!vn)) w := fun w => by rw [hvn.out, ← hx2]; exact run_neq_slice_nil_any w 29 51 x2 a.m k2 0 0 Try.underlying29
  have hmk := mk_rows Try.underlying44 info56 (by decide) a.m hm
  have hst := Bx.start w a.name (.slice x1 a.n k1) (.slice x2 a.m k2) a.off 31 46 (.string ⟨#[]⟩) (.slice none 0 0) (.slice none 0 0) (.int .i64 0)
  go_enter Try.func18, Try.ntmps18
  go_upto_if 7 with fail
  generalize ((w.alloc (.cells #[.string a.name, .slice x1 a.n k1, .slice x2 a.m k2, .int .i64 a.off] 31)).alloc (.cells #[.string ⟨#[]⟩, .slice none 0 0, .slice none 0 0, .int .i64 0] 46)) = w2 at *
  have e2 := hst.b2
  go_cut [3, 4] from 8 to 40 (fun v _ wx => Bx w wx a.name (.slice x1 a.n k1) (.slice x2 a.m k2) a.off ∧ RdT wx (Bt (w.heap.size + 2) wx.heap.size) v a.vn a.m a.ts)
  case first =>
    rcases hE.out.2 with ⟨h1, h2, h3⟩ | ⟨h1, ad, c, h3, h4⟩
    · have hv : vn = true := by rw [hvn.out]; exact h1
      subst hv
      have hr : Hid (RdT w2 (Bt (w.heap.size + 2) w2.heap.size) (.slice none 0 0) a.vn a.m a.ts) := .inl ⟨h1, h2, rfl⟩
      clear h1 h2 h3 hq hmk hvn hx2 hx1
      go_wp2_with fail
      go_meet
      case rel => exact ⟨hst, hr.out⟩
    · have hv : vn = false := by rw [hvn.out]; exact h1
      subst hv
      injection h3 with h3 h5 h6
      subst h3
      have h4 : Hid (∀ i, i < a.m → ∃ b o, ad = ⟨b, o, none⟩ ∧ Dn w.heap.size b ∧ w.cell? ⟨b, o + i * 3, none⟩ = some (.string (a.ts i).k) ∧ w.cell? ⟨b, o + i * 3 + 1, none⟩ = some (.string (a.ts i).t) ∧ w.cell? ⟨b, o + i * 3 + 2, none⟩ = some (.int .i64 (a.ts i).o)) := h4
      have hvn : Hid (a.vn = false) := h1
      have hR := Row3.made w2 (.agg #[.string ⟨#[]⟩, .string ⟨#[]⟩,   .int .i64 0]) 56 a.m a.ts
      have hX := hst.alloc (.cells (madeCells (Value.agg #[.string ⟨#[]⟩, .string ⟨#[]⟩, .int .i64 0]).cells (a.m * 3)) 56)
      have hz : Hid (w2.heap.size < (w2.alloc (.cells (madeCells (Value.agg #[.string ⟨#[]⟩, .string ⟨#[]⟩, .int .i64 0]).cells (a.m * 3)) 56)).heap.size) := by show _ < _; simp
      have hNz : Hid (w.heap.size + 2 ≤ w2.heap.size) := hst.sz
      clear h1 h5 h6 hx1 hx2 hst
      go_wp2_with fail
      go_loopw [4] (fun i wr => ∃ j : Nat, i = .int .i64 j ∧ j ≤ a.m ∧ Row3 wr w2.heap.size a.m j a.ts ∧ Bx w wr a.name (.slice x1 a.n k1) (.slice (some ad) a.m k2) a.off ∧ Hid (w2.heap.size < wr.heap.size)) (fun i _ => a.m - (intOf i).toNat)
      case atStart => exact ⟨0, rfl, Nat.zero_le _, hR, hX, hz⟩
      case round =>
        clear hR hX hz e2
        obtain ⟨j, rfl, hj, hR, hX, hz⟩ := hrel
        have e2 := hX.b2
        by_cases hlt : j < a.m
        · obtain ⟨b, o, rfl, g0, g1, g2, g3⟩ := h4.out j hlt
          have q := fun x => hX.bel.cell (p := ⟨b, x, none⟩) g0
          replace g1 := (q _).trans g1
          replace g2 := (q _).trans g2
          replace g3 := (q _).trans g3
          obtain ⟨u0, s0⟩ := Option.isSome_iff_exists.1 (hR.s (j * 3) (by omega))
          obtain ⟨u1, s1⟩ := Option.isSome_iff_exists.1 (hR.s (j * 3 + 1) (by omega))
          obtain ⟨u2, s2⟩ := Option.isSome_iff_exists.1 (hR.s (j * 3 + 2) (by omega))
          have f := hR.f
          have i1 : (j : Int) < a.m := by omega
          have hR2 : Row3 (set3 wr w2.heap.size (j * 3) (.string (a.ts j).k) (.string (a.ts j).t) (.int .i64 (a.ts j).o)).drew w2.heap.size a.m (j + 1) a.ts := (hR.put hlt).block rfl
          have hX2 := (hX.set3 (N := w2.heap.size) (o := j * 3) hNz.out (.string (a.ts j).k) (.string (a.ts j).t) (.int .i64 (a.ts j).o)).drew
          have hz2 : Hid (w2.heap.size < (set3 wr w2.heap.size (j * 3) (.string (a.ts j).k) (.string (a.ts j).t) (.int .i64 (a.ts j).o)).drew.heap.size) := by show _ < (set3 wr w2.heap.size (j * 3) (.string (a.ts j).k) (.string (a.ts j).t) (.int .i64 (a.ts j).o)).heap.size; rw [size_set3]; exact hz.out
          clear q h4
          go_wp2_with fail
          go_region
          go_wp2
          go_roundw
          case rel => exact ⟨j + 1, by go_num, by omega, hR2, hX2, hz2⟩
          case measure => simp [intOf]; omega
        · have i1 : decide ((j : Int) < a.m) = false := by simp; omega
          have hjm : j = a.m := by omega
          have hr : Hid (RdT wr (Bt (w.heap.size + 2) wr.heap.size) (.slice (some ⟨w2.heap.size, 0, none⟩) a.m a.m) a.vn a.m a.ts) := by
            rw [hvn.out]
            rw [hjm] at hR
            exact hR.rd ⟨by have := hNz.out; omega, hz.out⟩ _
          clear hjm h4
          go_wp2
          go_meet
          case rel => exact ⟨hX, hr.out⟩
  case rest =>
    clear hst e2 hq hmk
    obtain ⟨hX, hT⟩ := hcut
    obtain ⟨y, ky, rfl, -⟩ := hT.form
    have hA : RdA wc (Dn wc.heap.size) d (.slice x1 a.n k1) a.an a.n a.gs := hE.out.1.frame fun b hb => ⟨hX.bel.block b hb, Nat.lt_of_lt_of_le hb hX.bel.size⟩
    have c0 := hX.b0
    have c1 := hX.b1
    have c3 := hX.b3
    clear hE hx1 hx2 hvn
    have HC := H wc.drew _ _ _ _ (RdA.frame (w := wc) (w' := wc.drew) (S := Dn wc.heap.size) (S' := Dn wc.drew.heap.size) (fun b hb => ⟨rfl, hb⟩) hA) hB
    go_upto_region 8 with fail
    go_region_held3 (fun w' => w'.cell? ⟨w.heap.size, 0, none⟩ = some (.string a.name) ∧ w'.cell? ⟨w.heap.size, 1, none⟩ = some (.slice x1 a.n k1) ∧ w'.cell? ⟨w.heap.size, 3, none⟩ = some (.int .i64 a.off)) (go_keep)
      (first | (go_at_call 14; refine HC.mono ?_; rintro e w' ⟨v', rfl, hv', l⟩; obtain ⟨y', ky', rfl, -⟩ := hv'.form; have l' : Below wc.heap.size wc w' := ⟨l.os, l.tape, l.output, l.size, l.block⟩; have hX' := hX.call l'; have k0 := hX'.b0; have k1 := hX'.b1; have k3 := hX'.b3; have kf := hX'.f; obtain ⟨r0, hr0⟩ := Option.isSome_iff_exists.1 (hX'.r 0 (by omega)); obtain ⟨r1, hr1⟩ := Option.isSome_iff_exists.1 (hX'.r 1 (by omega)); obtain ⟨r2, hr2⟩ := Option.isSome_iff_exists.1 (hX'.r 2 (by omega)); obtain ⟨r3, hr3⟩ := Option.isSome_iff_exists.1 (hX'.r 3 (by omega))))
    all_goals
      have hfin := fin4 hX hT l' hv'
      have hg := get4 (v0 := .string a.name) (v1 := .slice y' a.n ky') (v2 := .slice y a.m ky) (v3 := .int .i64 a.off) hX'.r
      refine (?_ : Exit.then _ _ _ _ (set4 w' (w.heap.size + 1) 0 (.string a.name) (.slice y' a.n ky') (.slice y a.m ky) (.int .i64 a.off)))
      generalize set4 w' (w.heap.size + 1) 0 (.string a.name) (.slice y' a.n ky') (.slice y a.m ky) (.int .i64 a.off) = w9 at hfin hg ⊢
      obtain ⟨g0, g1, g2, g3⟩ := hg
      have hfin : Hid _ := hfin
      clear hr0 hr1 hr2 hr3 kf k0 k1 k3 hX' hX l l' hv' hT HC hA c0 c1 c3
      go_wp2_with fail
      refine bodyPost_ret (v := .agg #[.string a.name, .slice y' a.n ky', .slice y a.m ky, .int .i64 a.off]) (by simp [results, Try.results18, go_sem, g0, g1, g2, g3]) rfl ⟨_, _, rfl, hfin.out.1, hfin.out.2⟩

set_option maxRecDepth 100000 in
set_option maxHeartbeats 8000000 in
theorem ce15 (d : Nat) (H : CL 19 d) : CE 15 d := by
  intro w a va vv hE hB hm
  obtain ⟨x1, k1, rfl, hx1⟩ := hE.1.form
  obtain ⟨x2, k2, rfl, hx2⟩ := hE.2.form
  have hE : Hid (El w (Dn w.heap.size) d (.slice x1 a.n k1) (.slice x2 a.m k2) a) := hE
  obtain ⟨vn, hvn⟩ : ∃ b, Hid (b = a.vn) := ⟨_, rfl⟩
  have hq : ∀ w, (binOp .neq 44 (.slice x2 a.m k2) (.slice none 0 0)).run Try.prog w = .ok (.bool (!vn)) w := fun w => by rw [hvn.out, ← hx2]; exact run_neq_slice_nil_any w 44 56 x2 a.m k2 0 0 Try.underlying44
  have hmk := mk_rows Try.underlying29 info51 (by decide) a.m hm
  have hst := Bx.start w a.name (.slice x1 a.n k1) (.slice x2 a.m k2) a.off 46 31 (.string ⟨#[]⟩) (.slice none 0 0) (.slice none 0 0) (.int .i64 0)
  go_enter Try.func15, Try.ntmps15
  go_upto_if 7 with fail
  generalize ((w.alloc (.cells #[.string a.name, .slice x1 a.n k1, .slice x2 a.m k2, .int .i64 a.off] 46)).alloc (.cells #[.string ⟨#[]⟩, .slice none 0 0, .slice none 0 0, .int .i64 0] 31)) = w2 at *
  have e2 := hst.b2
  go_cut [3, 4] from 8 to 40 (fun v _ wx => Bx w wx a.name (.slice x1 a.n k1) (.slice x2 a.m k2) a.off ∧ RdT wx (Bt (w.heap.size + 2) wx.heap.size) v a.vn a.m a.ts)
  case first =>
    rcases hE.out.2 with ⟨h1, h2, h3⟩ | ⟨h1, ad, c, h3, h4⟩
    · have hv : vn = true := by rw [hvn.out]; exact h1
      subst hv
      have hr : Hid (RdT w2 (Bt (w.heap.size + 2) w2.heap.size) (.slice none 0 0) a.vn a.m a.ts) := .inl ⟨h1, h2, rfl⟩
      clear h1 h2 h3 hq hmk hvn hx2 hx1
      go_wp2_with fail
      go_meet
      case rel => exact ⟨hst, hr.out⟩
    · have hv : vn = false := by rw [hvn.out]; exact h1
      subst hv
      injection h3 with h3 h5 h6
      subst h3
      have h4 : Hid (∀ i, i < a.m → ∃ b o, ad = ⟨b, o, none⟩ ∧ Dn w.heap.size b ∧ w.cell? ⟨b, o + i * 3, none⟩ = some (.string (a.ts i).k) ∧ w.cell? ⟨b, o + i * 3 + 1, none⟩ = some (.string (a.ts i).t) ∧ w.cell? ⟨b, o + i * 3 + 2, none⟩ = some (.int .i64 (a.ts i).o)) := h4
      have hvn : Hid (a.vn = false) := h1
      have hR := Row3.made w2 (.agg #[.string ⟨#[]⟩, .string ⟨#[]⟩,   .int .i64 0]) 51 a.m a.ts
      have hX := hst.alloc (.cells (madeCells (Value.agg #[.string ⟨#[]⟩, .string ⟨#[]⟩, .int .i64 0]).cells (a.m * 3)) 51)
      have hz : Hid (w2.heap.size < (w2.alloc (.cells (madeCells (Value.agg #[.string ⟨#[]⟩, .string ⟨#[]⟩, .int .i64 0]).cells (a.m * 3)) 51)).heap.size) := by show _ < _; simp
      have hNz : Hid (w.heap.size + 2 ≤ w2.heap.size) := hst.sz
      clear h1 h5 h6 hx1 hx2 hst
      go_wp2_with fail
      go_loopw [4] (fun i wr => ∃ j : Nat, i = .int .i64 j ∧ j ≤ a.m ∧ Row3 wr w2.heap.size a.m j a.ts ∧ Bx w wr a.name (.slice x1 a.n k1) (.slice (some ad) a.m k2) a.off ∧ Hid (w2.heap.size < wr.heap.size)) (fun i _ => a.m - (intOf i).toNat)
      case atStart => exact ⟨0, rfl, Nat.zero_le _, hR, hX, hz⟩
      case round =>
        clear hR hX hz e2
        obtain ⟨j, rfl, hj, hR, hX, hz⟩ := hrel
        have e2 := hX.b2
        by_cases hlt : j < a.m
        · obtain ⟨b, o, rfl, g0, g1, g2, g3⟩ := h4.out j hlt
          have q := fun x => hX.bel.cell (p := ⟨b, x, none⟩) g0
          replace g1 := (q _).trans g1
          replace g2 := (q _).trans g2
          replace g3 := (q _).trans g3
          obtain ⟨u0, s0⟩ := Option.isSome_iff_exists.1 (hR.s (j * 3) (by omega))
          obtain ⟨u1, s1⟩ := Option.isSome_iff_exists.1 (hR.s (j * 3 + 1) (by omega))
          obtain ⟨u2, s2⟩ := Option.isSome_iff_exists.1 (hR.s (j * 3 + 2) (by omega))
          have f := hR.f
          have i1 : (j : Int) < a.m := by omega
          have hR2 : Row3 (set3 wr w2.heap.size (j * 3) (.string (a.ts j).k) (.string (a.ts j).t) (.int .i64 (a.ts j).o)).drew w2.heap.size a.m (j + 1) a.ts := (hR.put hlt).block rfl
          have hX2 := (hX.set3 (N := w2.heap.size) (o := j * 3) hNz.out (.string (a.ts j).k) (.string (a.ts j).t) (.int .i64 (a.ts j).o)).drew
          have hz2 : Hid (w2.heap.size < (set3 wr w2.heap.size (j * 3) (.string (a.ts j).k) (.string (a.ts j).t) (.int .i64 (a.ts j).o)).drew.heap.size) := by show _ < (set3 wr w2.heap.size (j * 3) (.string (a.ts j).k) (.string (a.ts j).t) (.int .i64 (a.ts j).o)).heap.size; rw [size_set3]; exact hz.out
          clear q h4
          go_wp2_with fail
          go_region
          go_wp2
          go_roundw
          case rel => exact ⟨j + 1, by go_num, by omega, hR2, hX2, hz2⟩
          case measure => simp [intOf]; omega
        · have i1 : decide ((j : Int) < a.m) = false := by simp; omega
          have hjm : j = a.m := by omega
          have hr : Hid (RdT wr (Bt (w.heap.size + 2) wr.heap.size) (.slice (some ⟨w2.heap.size, 0, none⟩) a.m a.m) a.vn a.m a.ts) := by
            rw [hvn.out]
            rw [hjm] at hR
            exact hR.rd ⟨by have := hNz.out; omega, hz.out⟩ _
          clear hjm h4
          go_wp2
          go_meet
          case rel => exact ⟨hX, hr.out⟩
  case rest =>
    clear hst e2 hq hmk
    obtain ⟨hX, hT⟩ := hcut
    obtain ⟨y, ky, rfl, -⟩ := hT.form
    have hA : RdA wc (Dn wc.heap.size) d (.slice x1 a.n k1) a.an a.n a.gs := hE.out.1.frame fun b hb => ⟨hX.bel.block b hb, Nat.lt_of_lt_of_le hb hX.bel.size⟩
    have c0 := hX.b0
    have c1 := hX.b1
    have c3 := hX.b3
    clear hE hx1 hx2 hvn
    have HC := H wc.drew _ _ _ _ (RdA.frame (w := wc) (w' := wc.drew) (S := Dn wc.heap.size) (S' := Dn wc.drew.heap.size) (fun b hb => ⟨rfl, hb⟩) hA) hB
    go_upto_region 8 with fail
    go_region_held3 (fun w' => w'.cell? ⟨w.heap.size, 0, none⟩ = some (.string a.name) ∧ w'.cell? ⟨w.heap.size, 1, none⟩ = some (.slice x1 a.n k1) ∧ w'.cell? ⟨w.heap.size, 3, none⟩ = some (.int .i64 a.off)) (go_keep)
      (first | (go_at_call 19; refine HC.mono ?_; rintro e w' ⟨v', rfl, hv', l⟩; obtain ⟨y', ky', rfl, -⟩ := hv'.form; have l' : Below wc.heap.size wc w' := ⟨l.os, l.tape, l.output, l.size, l.block⟩; have hX' := hX.call l'; have k0 := hX'.b0; have k1 := hX'.b1; have k3 := hX'.b3; have kf := hX'.f; obtain ⟨r0, hr0⟩ := Option.isSome_iff_exists.1 (hX'.r 0 (by omega)); obtain ⟨r1, hr1⟩ := Option.isSome_iff_exists.1 (hX'.r 1 (by omega)); obtain ⟨r2, hr2⟩ := Option.isSome_iff_exists.1 (hX'.r 2 (by omega)); obtain ⟨r3, hr3⟩ := Option.isSome_iff_exists.1 (hX'.r 3 (by omega))))
    all_goals
      have hfin := fin4 hX hT l' hv'
      have hg := get4 (v0 := .string a.name) (v1 := .slice y' a.n ky') (v2 := .slice y a.m ky) (v3 := .int .i64 a.off) hX'.r
      refine (?_ : Exit.then _ _ _ _ (set4 w' (w.heap.size + 1) 0 (.string a.name) (.slice y' a.n ky') (.slice y a.m ky) (.int .i64 a.off)))
      generalize set4 w' (w.heap.size + 1) 0 (.string a.name) (.slice y' a.n ky') (.slice y a.m ky) (.int .i64 a.off) = w9 at hfin hg ⊢
      obtain ⟨g0, g1, g2, g3⟩ := hg
      have hfin : Hid _ := hfin
      clear hr0 hr1 hr2 hr3 kf k0 k1 k3 hX' hX l l' hv' hT HC hA c0 c1 c3
      go_wp2_with fail
      refine bodyPost_ret (v := .agg #[.string a.name, .slice y' a.n ky', .slice y a.m ky, .int .i64 a.off]) (by simp [results, Try.results15, go_sem, g0, g1, g2, g3]) rfl ⟨_, _, rfl, hfin.out.1, hfin.out.2⟩
end Go.Proofs.Qxb6602150a
