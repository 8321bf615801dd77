import Derived.Test.Qxb6602150aCl
namespace Go.Proofs.Qxb6602150a
open Go.RowKit

/-- The world of the copying loop: j elements laid in block N, all else of theirs in the blocks from N + 1 on below h. -/
structure Lp (w wr : World) (d n j h : Nat) (ga : Nat → Ag) : Prop where
  row : Row4 wr (Bt (w.heap.size + 1) h) d w.heap.size n j ga
  bel : Below w.heap.size w wr
  lt : w.heap.size < wr.heap.size
  hh : h ≤ wr.heap.size

theorem Lp.grow {w wr w' : World} {d n j h : Nat} {ga : Nat → Ag} (p : Lp w wr d n j h ga) (l : Below wr.heap.size wr w') : Lp w w' d n j h ga :=
  ⟨p.row.frame (l.block _ p.lt) fun b hb => ⟨l.block b (Nat.lt_of_lt_of_le hb.2 p.hh), hb⟩, p.bel.trans (l.mono (Nat.le_of_lt p.lt)), Nat.lt_of_lt_of_le p.lt l.size, Nat.le_trans p.hh l.size⟩
theorem Lp.up {w wr : World} {d n j h : Nat} {ga : Nat → Ag} (p : Lp w wr d n j h ga) {h' : Nat} (h1 : h ≤ h') (h2 : h' ≤ wr.heap.size) : Lp w wr d n j h' ga :=
  ⟨p.row.frame rfl fun _ hb => ⟨rfl, hb.1, Nat.lt_of_lt_of_le hb.2 h1⟩, p.bel, p.lt, h2⟩
theorem Lp.set3 {w wr : World} {d n j h N o : Nat} {ga : Nat → Ag} (p : Lp w wr d n j h ga) (hN : h ≤ N) (hN2 : w.heap.size < N) (v0 v1 v2 : Value) : Lp w (Qxb6602150a.set3 wr N o v0 v1 v2) d n j h ga :=
  ⟨p.row.frame (heap_set3 (by omega)) fun b hb => ⟨heap_set3 (by have := hb.2; omega), hb⟩, (((p.bel.setCell (p := ⟨N, o, none⟩) (by show _ ≤ N; omega) v0).setCell (p := ⟨N, o + 1, none⟩) (by show _ ≤ N; omega) v1).setCell (p := ⟨N, o + 2, none⟩) (by show _ ≤ N; omega) v2),
    by rw [size_set3]; exact p.lt, by rw [size_set3]; exact p.hh⟩
theorem Lp.drew {w wr : World} {d n j h : Nat} {ga : Nat → Ag} (p : Lp w wr d n j h ga) : Lp w wr.drew d n j h ga :=
  ⟨p.row.frame rfl fun _ hb => ⟨rfl, hb⟩, p.bel.drew, p.lt, p.hh⟩

theorem Lp.last {w wc w' : World} {d n j : Nat} {ga : Nat → Ag} {v' vt : Value} (p : Lp w wc d n j wc.heap.size ga) (hT : RdT wc (Bt (w.heap.size + 1) wc.heap.size) vt (ga j).vn (ga j).m (ga j).ts) (l : Below wc.heap.size wc w')
    (hv : RdA w' (Bt wc.heap.size w'.heap.size) d v' (ga j).an (ga j).n (ga j).gs) (hj : j < n) :
    Lp w (set4 w' w.heap.size (j * 4) (.string (ga j).name) v' vt (.int .i64 (ga j).off)) d n (j + 1) (set4 w' w.heap.size (j * 4) (.string (ga j).name) v' vt (.int .i64 (ga j).off)).heap.size ga := by
  have h1 := p.lt
  have h2 := l.size
  have hP' := (p.grow l).up h2 (Nat.le_refl _)
  have hE : El w' (Bt (w.heap.size + 1) w'.heap.size) d v' vt (ga j) := ⟨hv.frame fun b hb => ⟨rfl, by have := hb.1; omega, hb.2⟩, hT.frame fun b hb => ⟨l.block b hb.2, hb.1, by have := hb.2; omega⟩⟩
  have hR := hP'.row.put hj (by intro h; have := h.1; omega) hE
  refine ⟨by rw [size_set4]; exact hR, below_set4 hP'.bel (Nat.le_refl _) _ _ _ _, by rw [size_set4]; omega, Nat.le_refl _⟩

set_option maxRecDepth 100000 in
set_option maxHeartbeats 16000000 in
theorem cl8 (d : Nat) (H : CL 8 d) : CL 8 (d + 1) := by
  intro w v nl n ga hA hB
  obtain ⟨x, c, rfl, hx⟩ := hA.form
  rcases hA with ⟨rfl, rfl, h3⟩ | ⟨rfl, ad, c', h3, h4⟩
  · injection h3 with h3 h5 h6
    subst h3 h6
    have hq : ∀ w, (binOp .eql 22 (.slice none 0 0) (.slice none 0 0)).run Try.prog w = .ok (.bool true) w := fun w => Lib.run_eql_slice_nil w 22 27 none 0 0 0 0 Try.underlying22
    go_enter Try.func8, Try.ntmps8
    go_wp2
    go_ret
    exact ⟨_, rfl, .inl ⟨rfl, rfl, rfl⟩, Below.refl _ _⟩
  · injection h3 with h3 h5 h6
    subst h3 h6
    have hq : ∀ w, (binOp .eql 22 (.slice (some ad) n c) (.slice none 0 0)).run Try.prog w = .ok (.bool false) w := fun w => Lib.run_eql_slice_nil w 22 27 (some ad) n c 0 0 Try.underlying22
    have hmk := mk_rows Try.underlying28 info31 (by decide) n hB.1
    have hB2 : Hid (∀ i, i < n → BdA d (ga i).n (ga i).gs ∧ (ga i).m ≤ 1048576) := hB.2
    have h4 : Hid (∀ i, i < n → ∃ b o va vv, ad = ⟨b, o, none⟩ ∧ Dn w.heap.size b ∧ w.cell? ⟨b, o + i * 4, none⟩ = some (.string (ga i).name) ∧ w.cell? ⟨b, o + i * 4 + 1, none⟩ = some va ∧ w.cell? ⟨b, o + i * 4 + 2, none⟩ = some vv ∧ w.cell? ⟨b, o + i * 4 + 3, none⟩ = some (.int .i64 (ga i).off) ∧
      RdA w (Dn w.heap.size) d va (ga i).an (ga i).n (ga i).gs ∧ RdT w (Dn w.heap.size) vv (ga i).vn (ga i).m (ga i).ts) := h4
    have hn := hB.1
    have hP : Lp w (w.alloc (.cells (madeCells (Value.agg #[.string ⟨#[]⟩, .slice none 0 0, .slice none 0 0, .int .i64 0]).cells (n * 4)) 31)) d n 0 (w.alloc (.cells (madeCells (Value.agg #[.string ⟨#[]⟩, .slice none 0 0, .slice none 0 0, .int .i64 0]).cells (n * 4)) 31)).heap.size ga :=
      ⟨Row4.made w _ d (.agg #[.string ⟨#[]⟩, .slice none 0 0, .slice none 0 0, .int .i64 0]) 31 n ga, (Below.refl _ _).alloc (Nat.le_refl _) _, by simp, Nat.le_refl _⟩
    clear hB hx h5
    go_enter Try.func8, Try.ntmps8
    go_wp2_with fail
    go_loopw [4] (fun i wr => ∃ j : Nat, i = .int .i64 j ∧ j ≤ n ∧ Lp w wr d n j wr.heap.size ga) (fun i _ => n - (intOf i).toNat)
    case atStart => exact ⟨0, rfl, Nat.zero_le _, hP⟩
    case round =>
      clear hP hmk hq
      obtain ⟨j, rfl, hj, hP⟩ := hrel
      by_cases hlt : j < n
      · obtain ⟨b, o, va, vv, rfl, g0, g1, g2, g3, g4, g5, g6⟩ := h4.out j hlt
        obtain ⟨x1, k1, rfl, -⟩ := g5.form
        obtain ⟨x2, k2, rfl, hx2⟩ := g6.form
        have gg : Hid (Dn w.heap.size b ∧ w.cell? ⟨b, o + j * 4, none⟩ = some (.string (ga j).name) ∧ w.cell? ⟨b, o + j * 4 + 1, none⟩ = some (.slice x1 (ga j).n k1) ∧ w.cell? ⟨b, o + j * 4 + 2, none⟩ = some (.slice x2 (ga j).m k2) ∧ w.cell? ⟨b, o + j * 4 + 3, none⟩ = some (.int .i64 (ga j).off)) := ⟨g0, g1, g2, g3, g4⟩
        have gA : Hid (RdA w (Dn w.heap.size) d (.slice x1 (ga j).n k1) (ga j).an (ga j).n (ga j).gs) := g5
        have gT : Hid (RdT w (Dn w.heap.size) (.slice x2 (ga j).m k2) (ga j).vn (ga j).m (ga j).ts) := g6
        have hm : (ga j).m ≤ 1048576 := (hB2.out j hlt).2
        have e2 : wr.cell? ⟨b, o + j * 4 + 2, none⟩ = some (.slice x2 (ga j).m k2) := (hP.bel.cell (p := ⟨b, _, none⟩) g0).trans g3
        obtain ⟨vn, hvn⟩ : ∃ b, Hid (b = (ga j).vn) := ⟨_, rfl⟩
        have hq : ∀ w, (binOp .neq 25 (.slice x2 (ga j).m k2) (.slice none 0 0)).run Try.prog w = .ok (.bool (!vn)) w := fun w => by rw [hvn.out, ← hx2]; exact run_neq_slice_nil_any w 25 41 x2 (ga j).m k2 0 0 Try.underlying25
        have hmk := mk_rows Try.underlying29 info51 (by decide) (ga j).m hm
        have i1 : (j : Int) < n := by omega
        clear g0 g1 g2 g3 g4 g5 g6 hx2 h4
        go_upto_if 23 with fail
        go_cut [5, 6] from 24 to 71 (fun v _ wx => Lp w wx d n j wx.heap.size ga ∧ RdT wx (Bt (w.heap.size + 1) wx.heap.size) v (ga j).vn (ga j).m (ga j).ts)
        case first =>
          as_aux_lemma =>
            obtain ⟨w1, rfl⟩ : ∃ x, x = wr := ⟨wr, rfl⟩
            rcases gT.out with ⟨h1, h2, h3⟩ | ⟨h1, ad, c, h3, h4⟩
            · have hv : vn = true := by rw [hvn.out]; exact h1
              subst hv
              have hr : Hid (RdT w1 (Bt (w.heap.size + 1) w1.heap.size) (.slice none 0 0) (ga j).vn (ga j).m (ga j).ts) := .inl ⟨h1, h2, rfl⟩
              clear h1 h2 h3 hq hmk hvn
              go_wp2_with fail
              go_meet
              case rel => exact ⟨hP, hr.out⟩
            · have hv : vn = false := by rw [hvn.out]; exact h1
              subst hv
              injection h3 with h3 h5 h6
              subst h3
              have h4 : Hid (∀ i, i < (ga j).m → ∃ b o, ad = ⟨b, o, none⟩ ∧ Dn w.heap.size b ∧ w.cell? ⟨b, o + i * 3, none⟩ = some (.string ((ga j).ts i).k) ∧ w.cell? ⟨b, o + i * 3 + 1, none⟩ = some (.string ((ga j).ts i).t) ∧ w.cell? ⟨b, o + i * 3 + 2, none⟩ = some (.int .i64 ((ga j).ts i).o)) := h4
              have hvn : Hid ((ga j).vn = false) := h1
              have hR := Row3.made w1 (.agg #[.string ⟨#[]⟩, .string ⟨#[]⟩, .int .i64 0]) 51 (ga j).m (ga j).ts
              have hX : Lp w (w1.alloc (.cells (madeCells (Value.agg #[.string ⟨#[]⟩, .string ⟨#[]⟩, .int .i64 0]).cells ((ga j).m * 3)) 51)) d n j w1.heap.size ga := hP.grow ((Below.refl _ _).alloc (Nat.le_refl _) _)
              have hz : Hid (w1.heap.size < (w1.alloc (.cells (madeCells (Value.agg #[.string ⟨#[]⟩, .string ⟨#[]⟩, .int .i64 0]).cells ((ga j).m * 3)) 51)).heap.size) := by show _ < _; simp
              have hNz : Hid (w.heap.size < w1.heap.size) := hP.lt
              clear h1 h5 h6 hP hq gT gA
              go_wp2_with fail
              go_loopw [6] (fun i wq => ∃ t : Nat, i = .int .i64 t ∧ t ≤ (ga j).m ∧ Row3 wq w1.heap.size (ga j).m t (ga j).ts ∧ Lp w wq d n j w1.heap.size ga ∧ Hid (w1.heap.size < wq.heap.size)) (fun i _ => (ga j).m - (intOf i).toNat)
              case atStart => exact ⟨0, rfl, Nat.zero_le _, hR, hX, hz⟩
              case round =>
                clear hR hX hz e2 hmk
                obtain ⟨t, rfl, ht, hR, hX, hz⟩ := hrel
                have e2 : wr.cell? ⟨b, o + j * 4 + 2, none⟩ = some (.slice (some ad) (ga j).m k2) := (hX.bel.cell (p := ⟨b, _, none⟩) gg.out.1).trans gg.out.2.2.2.1
                by_cases hlt2 : t < (ga j).m
                · obtain ⟨b2, o2, rfl, g0, g1, g2, g3⟩ := h4.out t hlt2
                  have q := fun x => hX.bel.cell (p := ⟨b2, x, none⟩) g0
                  replace g1 := (q _).trans g1
                  replace g2 := (q _).trans g2
                  replace g3 := (q _).trans g3
                  obtain ⟨u0, s0⟩ := Option.isSome_iff_exists.1 (hR.s (t * 3) (by omega))
                  obtain ⟨u1, s1⟩ := Option.isSome_iff_exists.1 (hR.s (t * 3 + 1) (by omega))
                  obtain ⟨u2, s2⟩ := Option.isSome_iff_exists.1 (hR.s (t * 3 + 2) (by omega))
                  have f := hR.f
                  have i2 : (t : Int) < (ga j).m := by omega
                  have hR2 : Row3 (set3 wr w1.heap.size (t * 3) (.string ((ga j).ts t).k) (.string ((ga j).ts t).t) (.int .i64 ((ga j).ts t).o)).drew w1.heap.size (ga j).m (t + 1) (ga j).ts := (hR.put hlt2).block rfl
                  have hX2 := (hX.set3 (N := w1.heap.size) (o := t * 3) (Nat.le_refl _) hNz.out (.string ((ga j).ts t).k) (.string ((ga j).ts t).t) (.int .i64 ((ga j).ts t).o)).drew
                  have hz2 : Hid (w1.heap.size < (set3 wr w1.heap.size (t * 3) (.string ((ga j).ts t).k) (.string ((ga j).ts t).t) (.int .i64 ((ga j).ts t).o)).drew.heap.size) := by show _ < (set3 wr w1.heap.size (t * 3) (.string ((ga j).ts t).k) (.string ((ga j).ts t).t) (.int .i64 ((ga j).ts t).o)).heap.size; rw [size_set3]; exact hz.out
                  clear q h4
                  go_wp2_with fail
                  go_region
                  go_wp2
                  go_roundw
                  case rel => exact ⟨t + 1, by go_num, by omega, hR2, hX2, hz2⟩
                  case measure => simp [intOf]; omega
                · have i2 : decide ((t : Int) < (ga j).m) = false := by simp; omega
                  have hjm : t = (ga j).m := by omega
                  have hr : Hid (RdT wr (Bt (w.heap.size + 1) wr.heap.size) (.slice (some ⟨w1.heap.size, 0, none⟩) (ga j).m (ga j).m) (ga j).vn (ga j).m (ga j).ts) := by
                    rw [hvn.out]
                    rw [hjm] at hR
                    exact hR.rd ⟨by have := hNz.out; omega, hz.out⟩ _
                  have hP2 := hX.up hX.hh (Nat.le_refl _)
                  clear hjm h4
                  go_wp2
                  go_meet
                  case rel => exact ⟨hP2, hr.out⟩
        case rest =>
          clear hP e2 hq hmk
          obtain ⟨hP, hT⟩ := hcut
          obtain ⟨y, ky, rfl, -⟩ := hT.form
          have hA : RdA wc (Dn wc.heap.size) d (.slice x1 (ga j).n k1) (ga j).an (ga j).n (ga j).gs := gA.out.frame fun b hb => ⟨hP.bel.block b hb, Nat.lt_of_lt_of_le hb hP.bel.size⟩
          have qq := fun x => hP.bel.cell (p := ⟨b, x, none⟩) gg.out.1
          have c0 := (qq _).trans gg.out.2.1
          have c1 := (qq _).trans gg.out.2.2.1
          have c3 := (qq _).trans gg.out.2.2.2.2
          have HC := H wc.drew _ _ _ _ (RdA.frame (w := wc) (w' := wc.drew) (S := Dn wc.heap.size) (S' := Dn wc.drew.heap.size) (fun b hb => ⟨rfl, hb⟩) hA) (hB2.out j hlt).1
          have hne1 : ¬ w.heap.size = b := by have h : b < w.heap.size := gg.out.1; omega
          have hne2 : ¬ b = w.heap.size := by have h : b < w.heap.size := gg.out.1; omega
          clear qq hvn gT
          go_upto_region 14 with fail
          go_region_held3 (fun w' => w'.cell? ⟨b, o + j * 4, none⟩ = some (.string (ga j).name) ∧ w'.cell? ⟨b, o + j * 4 + 1, none⟩ = some (.slice x1 (ga j).n k1) ∧ w'.cell? ⟨b, o + j * 4 + 3, none⟩ = some (.int .i64 (ga j).off)) (go_keep)
            (first | (go_at_call 8; refine HC.mono ?_; rintro e w' ⟨v', rfl, hv', l⟩; obtain ⟨y', ky', rfl, -⟩ := hv'.form; have l' : Below wc.heap.size wc w' := ⟨l.os, l.tape, l.output, l.size, l.block⟩; have hP' := hP.grow l'; have qq := fun x => hP'.bel.cell (p := ⟨b, x, none⟩) gg.out.1; have k0 := (qq _).trans gg.out.2.1; have k1 := (qq _).trans gg.out.2.2.1; have k3 := (qq _).trans gg.out.2.2.2.2; have kf := hP'.row.f; obtain ⟨r0, hr0⟩ := Option.isSome_iff_exists.1 (hP'.row.s (j * 4) (by omega)); obtain ⟨r1, hr1⟩ := Option.isSome_iff_exists.1 (hP'.row.s (j * 4 + 1) (by omega)); obtain ⟨r2, hr2⟩ := Option.isSome_iff_exists.1 (hP'.row.s (j * 4 + 2) (by omega)); obtain ⟨r3, hr3⟩ := Option.isSome_iff_exists.1 (hP'.row.s (j * 4 + 3) (by omega)); clear qq))
          all_goals
            have hfin := hP.last hT l' hv' hlt
            refine (?_ : Exit.inBlock _ _ _ _ (set4 w' w.heap.size (j * 4) (.string (ga j).name) (.slice y' (ga j).n ky') (.slice y (ga j).m ky) (.int .i64 (ga j).off)))
            generalize set4 w' w.heap.size (j * 4) (.string (ga j).name) (.slice y' (ga j).n ky') (.slice y (ga j).m ky) (.int .i64 (ga j).off) = w9 at hfin ⊢
            clear hr0 hr1 hr2 hr3 kf k0 k1 k3 hP' hP l l' hv' hT HC hA c0 c1 c3
            go_wp2
            go_roundw
            case rel => exact ⟨j + 1, by go_num, by omega, hfin⟩
            case measure => simp [intOf]; omega
      · have i1 : decide ((j : Int) < n) = false := by simp; omega
        have hjn : j = n := by omega
        rw [hjn] at hP
        have hr : Hid (RdA wr (Bt w.heap.size wr.heap.size) (d + 1) (.slice (some ⟨w.heap.size, 0, none⟩) n n) false n ga) := hP.row.rd ⟨Nat.le_refl _, hP.lt⟩ (fun b hb => ⟨by have := hb.1; omega, hb.2⟩) _
        have hbl := hP.bel
        clear hjn h4 hB2
        go_wp2
        go_ret
        exact ⟨_, rfl, hr.out, hbl⟩
theorem cl8_all : ∀ d, CL 8 d
  | 0 => fun _ _ _ _ _ h => h.elim
  | d + 1 => cl8 d (cl8_all d)
end Go.Proofs.Qxb6602150a
