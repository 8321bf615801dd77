import Derived.Test.Qxb6602150aCl
namespace Go.Proofs.Qxb6602150a
open Go.RowKit

set_option maxRecDepth 100000 in
set_option maxHeartbeats 8000000 in
theorem cl6 (d : Nat) (H : CE 12 d) : CL 6 (d + 1) := by
  intro w v nl n ga hA hB
  obtain ⟨x, c, rfl, hx⟩ := hA.form
  rcases hA with ⟨rfl, rfl, h3⟩ | ⟨rfl, ad, c', h3, h4⟩
  · injection h3 with h3 h5 h6
    subst h3 h6
    have hq : ∀ w, (binOp .eql 22 (.slice none 0 0) (.slice none 0 0)).run Try.prog w = .ok (.bool true) w := fun w => Lib.run_eql_slice_nil w 22 27 none 0 0 0 0 Try.underlying22
    go_enter Try.func6, Try.ntmps6
    go_wp2
    go_ret
    exact ⟨_, rfl, .inl ⟨rfl, rfl, rfl⟩, Below.refl _ _⟩
  · injection h3 with h3 h5 h6
    subst h3 h6
    have hq : ∀ w, (binOp .eql 22 (.slice (some ad) n c) (.slice none 0 0)).run Try.prog w = .ok (.bool false) w := fun w => Lib.run_eql_slice_nil w 22 27 (some ad) n c 0 0 Try.underlying22
    have hmk := mk_rows Try.underlying22 info27 (by decide) n hB.1
    have hB2 : Hid (∀ i, i < n → BdA d (ga i).n (ga i).gs ∧ (ga i).m ≤ 1048576) := hB.2
    have h4 : Hid (∀ i, i < n → ∃ b o va vv, ad = ⟨b, o, none⟩ ∧ Dn w.heap.size b ∧ w.cell? ⟨b, o + i * 4, none⟩ = some (.string (ga i).name) ∧ w.cell? ⟨b, o + i * 4 + 1, none⟩ = some va ∧ w.cell? ⟨b, o + i * 4 + 2, none⟩ = some vv ∧ w.cell? ⟨b, o + i * 4 + 3, none⟩ = some (.int .i64 (ga i).off) ∧
      RdA w (Dn w.heap.size) d va (ga i).an (ga i).n (ga i).gs ∧ RdT w (Dn w.heap.size) vv (ga i).vn (ga i).m (ga i).ts) := h4
    have hn := hB.1
    have hR := Row4.made w (Bt (w.heap.size + 1) (w.alloc (.cells (madeCells (Value.agg #[.string ⟨#[]⟩, .slice none 0 0, .slice none 0 0, .int .i64 0]).cells (n * 4)) 27)).heap.size) d (.agg #[.string ⟨#[]⟩, .slice none 0 0, .slice none 0 0, .int .i64 0]) 27 n ga
    have hbl : Below w.heap.size w (w.alloc (.cells (madeCells (Value.agg #[.string ⟨#[]⟩, .slice none 0 0, .slice none 0 0, .int .i64 0]).cells (n * 4)) 27)) := (Below.refl _ _).alloc (Nat.le_refl _) _
    have hz : Hid (w.heap.size < (w.alloc (.cells (madeCells (Value.agg #[.string ⟨#[]⟩, .slice none 0 0, .slice none 0 0, .int .i64 0]).cells (n * 4)) 27)).heap.size) := by show _ < _; simp
    clear hB hx h5
    go_enter Try.func6, Try.ntmps6
    go_wp2_with fail
    go_loopw [4] (fun i wr => ∃ j : Nat, i = .int .i64 j ∧ j ≤ n ∧ Row4 wr (Bt (w.heap.size + 1) wr.heap.size) d w.heap.size n j ga ∧ Below w.heap.size w wr ∧ Hid (w.heap.size < wr.heap.size)) (fun i _ => n - (intOf i).toNat)
    case atStart => exact ⟨0, rfl, Nat.zero_le _, hR, hbl, hz⟩
    case round =>
      clear hR hbl hz
      obtain ⟨j, rfl, hj, hR, hbl, hz⟩ := hrel
      by_cases hlt : j < n
      · obtain ⟨b, o, va, vv, rfl, g0, g1, g2, g3, g4, g5, g6⟩ := h4.out j hlt
        have q := fun x => hbl.cell (p := ⟨b, x, none⟩) g0
        replace g1 := (q _).trans g1
        replace g2 := (q _).trans g2
        replace g3 := (q _).trans g3
        replace g4 := (q _).trans g4
        have hE : El wr (Dn wr.heap.size) d va vv (ga j) := El.frame (w := w) (S := Dn w.heap.size) ⟨g5, g6⟩ fun b hb => ⟨hbl.block b hb, Nat.lt_of_lt_of_le hb hbl.size⟩
        have HC := H wr (ga j) va vv hE (hB2.out j hlt).1 (hB2.out j hlt).2
        have i1 : (j : Int) < n := by omega
        clear q g5 g6 hE
        go_wp2_with fail
        refine HC.mono ?_
        rintro e w' ⟨va', vv', rfl, hE', l⟩
        clear HC
        obtain ⟨y1, k1, rfl, -⟩ := hE'.1.form
        obtain ⟨y2, k2, rfl, -⟩ := hE'.2.form
        have hz1 := hz.out
        have hz2 := l.size
        have hR' : Row4 w' (Bt (w.heap.size + 1) w'.heap.size) d w.heap.size n j ga := hR.frame (l.block _ hz1) fun b hb => ⟨l.block b hb.2, hb.1, Nat.lt_of_lt_of_le hb.2 hz2⟩
        have hE2 : El w' (Bt (w.heap.size + 1) w'.heap.size) d (.slice y1 (ga j).n k1) (.slice y2 (ga j).m k2) (ga j) := hE'.frame fun b hb => ⟨rfl, by have := hb.1; omega, hb.2⟩
        have hR2 := hR'.put hlt (by intro h; have := h.1; omega) hE2
        have hb2 := below_set4 (o := j * 4) (hbl.trans (l.mono (by omega))) (Nat.le_refl w.heap.size) (.string (ga j).name) (.slice y1 (ga j).n k1) (.slice y2 (ga j).m k2) (.int .i64 (ga j).off)
        have hz3 : Hid (w.heap.size < (set4 w' w.heap.size (j * 4) (.string (ga j).name) (.slice y1 (ga j).n k1) (.slice y2 (ga j).m k2) (.int .i64 (ga j).off)).heap.size) := by show _ < _; rw [size_set4]; omega
        obtain ⟨u0, s0⟩ := Option.isSome_iff_exists.1 (hR'.s (j * 4) (by omega))
        obtain ⟨u1, s1⟩ := Option.isSome_iff_exists.1 (hR'.s (j * 4 + 1) (by omega))
        obtain ⟨u2, s2⟩ := Option.isSome_iff_exists.1 (hR'.s (j * 4 + 2) (by omega))
        obtain ⟨u3, s3⟩ := Option.isSome_iff_exists.1 (hR'.s (j * 4 + 3) (by omega))
        have f := hR'.f
        have hR3 : Hid (Row4 (set4 w' w.heap.size (j * 4) (.string (ga j).name) (.slice y1 (ga j).n k1) (.slice y2 (ga j).m k2) (.int .i64 (ga j).off)) (Bt (w.heap.size + 1) (set4 w' w.heap.size (j * 4) (.string (ga j).name) (.slice y1 (ga j).n k1) (.slice y2 (ga j).m k2) (.int .i64 (ga j).off)).heap.size) d w.heap.size n (j + 1) ga) := by rw [size_set4]; exact hR2
        clear hR2 hE2 hE' hR' hR l hz1 hz2
        go_wp2
        go_roundw
        case rel => exact ⟨j + 1, by go_num, by omega, hR3.out, hb2, hz3⟩
        case measure => simp [intOf]; omega
      · have i1 : decide ((j : Int) < n) = false := by simp; omega
        have hjn : j = n := by omega
        rw [hjn] at hR
        have hr : Hid (RdA wr (Bt w.heap.size wr.heap.size) (d + 1) (.slice (some ⟨w.heap.size, 0, none⟩) n n) false n ga) := hR.rd ⟨Nat.le_refl _, hz.out⟩ (fun b hb => ⟨by have := hb.1; omega, hb.2⟩) _
        clear hjn h4 hB2
        go_wp2
        go_ret
        exact ⟨_, rfl, hr.out, hbl⟩

set_option maxRecDepth 100000 in
set_option maxHeartbeats 8000000 in
theorem cl14 (d : Nat) (H : CE 18 d) : CL 14 (d + 1) := by
  intro w v nl n ga hA hB
  obtain ⟨x, c, rfl, hx⟩ := hA.form
  rcases hA with ⟨rfl, rfl, h3⟩ | ⟨rfl, ad, c', h3, h4⟩
  · injection h3 with h3 h5 h6
    subst h3 h6
    have hq : ∀ w, (binOp .eql 28 (.slice none 0 0) (.slice none 0 0)).run Try.prog w = .ok (.bool true) w := fun w => Lib.run_eql_slice_nil w 28 31 none 0 0 0 0 Try.underlying28
    go_enter Try.func14, Try.ntmps14
    go_wp2
    go_ret
    exact ⟨_, rfl, .inl ⟨rfl, rfl, rfl⟩, Below.refl _ _⟩
  · injection h3 with h3 h5 h6
    subst h3 h6
    have hq : ∀ w, (binOp .eql 28 (.slice (some ad) n c) (.slice none 0 0)).run Try.prog w = .ok (.bool false) w := fun w => Lib.run_eql_slice_nil w 28 31 (some ad) n c 0 0 Try.underlying28
    have hmk := mk_rows Try.underlying43 info46 (by decide) n hB.1
    have hB2 : Hid (∀ i, i < n → BdA d (ga i).n (ga i).gs ∧ (ga i).m ≤ 1048576) := hB.2
    have h4 : Hid (∀ i, i < n → ∃ b o va vv, ad = ⟨b, o, none⟩ ∧ Dn w.heap.size b ∧ w.cell? ⟨b, o + i * 4, none⟩ = some (.string (ga i).name) ∧ w.cell? ⟨b, o + i * 4 + 1, none⟩ = some va ∧ w.cell? ⟨b, o + i * 4 + 2, none⟩ = some vv ∧ w.cell? ⟨b, o + i * 4 + 3, none⟩ = some (.int .i64 (ga i).off) ∧
      RdA w (Dn w.heap.size) d va (ga i).an (ga i).n (ga i).gs ∧ RdT w (Dn w.heap.size) vv (ga i).vn (ga i).m (ga i).ts) := h4
    have hn := hB.1
    have hR := Row4.made w (Bt (w.heap.size + 1) (w.alloc (.cells (madeCells (Value.agg #[.string ⟨#[]⟩, .slice none 0 0, .slice none 0 0, .int .i64 0]).cells (n * 4)) 46)).heap.size) d (.agg #[.string ⟨#[]⟩, .slice none 0 0, .slice none 0 0, .int .i64 0]) 46 n ga
    have hbl : Below w.heap.size w (w.alloc (.cells (madeCells (Value.agg #[.string ⟨#[]⟩, .slice none 0 0, .slice none 0 0, .int .i64 0]).cells (n * 4)) 46)) := (Below.refl _ _).alloc (Nat.le_refl _) _
    have hz : Hid (w.heap.size < (w.alloc (.cells (madeCells (Value.agg #[.string ⟨#[]⟩, .slice none 0 0, .slice none 0 0, .int .i64 0]).cells (n * 4)) 46)).heap.size) := by show _ < _; simp
    clear hB hx h5
    go_enter Try.func14, Try.ntmps14
    go_wp2_with fail
    go_loopw [4] (fun i wr => ∃ j : Nat, i = .int .i64 j ∧ j ≤ n ∧ Row4 wr (Bt (w.heap.size + 1) wr.heap.size) d w.heap.size n j ga ∧ Below w.heap.size w wr ∧ Hid (w.heap.size < wr.heap.size)) (fun i _ => n - (intOf i).toNat)
    case atStart => exact ⟨0, rfl, Nat.zero_le _, hR, hbl, hz⟩
    case round =>
      clear hR hbl hz
      obtain ⟨j, rfl, hj, hR, hbl, hz⟩ := hrel
      by_cases hlt : j < n
      · obtain ⟨b, o, va, vv, rfl, g0, g1, g2, g3, g4, g5, g6⟩ := h4.out j hlt
        have q := fun x => hbl.cell (p := ⟨b, x, none⟩) g0
        replace g1 := (q _).trans g1
        replace g2 := (q _).trans g2
        replace g3 := (q _).trans g3
        replace g4 := (q _).trans g4
        have hE : El wr (Dn wr.heap.size) d va vv (ga j) := El.frame (w := w) (S := Dn w.heap.size) ⟨g5, g6⟩ fun b hb => ⟨hbl.block b hb, Nat.lt_of_lt_of_le hb hbl.size⟩
        have HC := H wr (ga j) va vv hE (hB2.out j hlt).1 (hB2.out j hlt).2
        have i1 : (j : Int) < n := by omega
        clear q g5 g6 hE
        go_wp2_with fail
        refine HC.mono ?_
        rintro e w' ⟨va', vv', rfl, hE', l⟩
        clear HC
        obtain ⟨y1, k1, rfl, -⟩ := hE'.1.form
        obtain ⟨y2, k2, rfl, -⟩ := hE'.2.form
        have hz1 := hz.out
        have hz2 := l.size
        have hR' : Row4 w' (Bt (w.heap.size + 1) w'.heap.size) d w.heap.size n j ga := hR.frame (l.block _ hz1) fun b hb => ⟨l.block b hb.2, hb.1, Nat.lt_of_lt_of_le hb.2 hz2⟩
        have hE2 : El w' (Bt (w.heap.size + 1) w'.heap.size) d (.slice y1 (ga j).n k1) (.slice y2 (ga j).m k2) (ga j) := hE'.frame fun b hb => ⟨rfl, by have := hb.1; omega, hb.2⟩
        have hR2 := hR'.put hlt (by intro h; have := h.1; omega) hE2
        have hb2 := below_set4 (o := j * 4) (hbl.trans (l.mono (by omega))) (Nat.le_refl w.heap.size) (.string (ga j).name) (.slice y1 (ga j).n k1) (.slice y2 (ga j).m k2) (.int .i64 (ga j).off)
        have hz3 : Hid (w.heap.size < (set4 w' w.heap.size (j * 4) (.string (ga j).name) (.slice y1 (ga j).n k1) (.slice y2 (ga j).m k2) (.int .i64 (ga j).off)).heap.size) := by show _ < _; rw [size_set4]; omega
        obtain ⟨u0, s0⟩ := Option.isSome_iff_exists.1 (hR'.s (j * 4) (by omega))
        obtain ⟨u1, s1⟩ := Option.isSome_iff_exists.1 (hR'.s (j * 4 + 1) (by omega))
        obtain ⟨u2, s2⟩ := Option.isSome_iff_exists.1 (hR'.s (j * 4 + 2) (by omega))
        obtain ⟨u3, s3⟩ := Option.isSome_iff_exists.1 (hR'.s (j * 4 + 3) (by omega))
        have f := hR'.f
        have hR3 : Hid (Row4 (set4 w' w.heap.size (j * 4) (.string (ga j).name) (.slice y1 (ga j).n k1) (.slice y2 (ga j).m k2) (.int .i64 (ga j).off)) (Bt (w.heap.size + 1) (set4 w' w.heap.size (j * 4) (.string (ga j).name) (.slice y1 (ga j).n k1) (.slice y2 (ga j).m k2) (.int .i64 (ga j).off)).heap.size) d w.heap.size n (j + 1) ga) := by rw [size_set4]; exact hR2
        clear hR2 hE2 hE' hR' hR l hz1 hz2
        go_wp2
        go_roundw
        case rel => exact ⟨j + 1, by go_num, by omega, hR3.out, hb2, hz3⟩
        case measure => simp [intOf]; omega
      · have i1 : decide ((j : Int) < n) = false := by simp; omega
        have hjn : j = n := by omega
        rw [hjn] at hR
        have hr : Hid (RdA wr (Bt w.heap.size wr.heap.size) (d + 1) (.slice (some ⟨w.heap.size, 0, none⟩) n n) false n ga) := hR.rd ⟨Nat.le_refl _, hz.out⟩ (fun b hb => ⟨by have := hb.1; omega, hb.2⟩) _
        clear hjn h4 hB2
        go_wp2
        go_ret
        exact ⟨_, rfl, hr.out, hbl⟩

set_option maxRecDepth 100000 in
set_option maxHeartbeats 8000000 in
theorem cl19 (d : Nat) (H : CE 15 d) : CL 19 (d + 1) := by
  intro w v nl n ga hA hB
  obtain ⟨x, c, rfl, hx⟩ := hA.form
  rcases hA with ⟨rfl, rfl, h3⟩ | ⟨rfl, ad, c', h3, h4⟩
  · injection h3 with h3 h5 h6
    subst h3 h6
    have hq : ∀ w, (binOp .eql 43 (.slice none 0 0) (.slice none 0 0)).run Try.prog w = .ok (.bool true) w := fun w => Lib.run_eql_slice_nil w 43 46 none 0 0 0 0 Try.underlying43
    go_enter Try.func19, Try.ntmps19
    go_wp2
    go_ret
    exact ⟨_, rfl, .inl ⟨rfl, rfl, rfl⟩, Below.refl _ _⟩
  · injection h3 with h3 h5 h6
    subst h3 h6
    have hq : ∀ w, (binOp .eql 43 (.slice (some ad) n c) (.slice none 0 0)).run Try.prog w = .ok (.bool false) w := fun w => Lib.run_eql_slice_nil w 43 46 (some ad) n c 0 0 Try.underlying43
    have hmk := mk_rows Try.underlying28 info31 (by decide) n hB.1
    have hB2 : Hid (∀ i, i < n → BdA d (ga i).n (ga i).gs ∧ (ga i).m ≤ 1048576) := hB.2
    have h4 : Hid (∀ i, i < n → ∃ b o va vv, ad = ⟨b, o, none⟩ ∧ Dn w.heap.size b ∧ w.cell? ⟨b, o + i * 4, none⟩ = some (.string (ga i).name) ∧ w.cell? ⟨b, o + i * 4 + 1, none⟩ = some va ∧ w.cell? ⟨b, o + i * 4 + 2, none⟩ = some vv ∧ w.cell? ⟨b, o + i * 4 + 3, none⟩ = some (.int .i64 (ga i).off) ∧
      RdA w (Dn w.heap.size) d va (ga i).an (ga i).n (ga i).gs ∧ RdT w (Dn w.heap.size) vv (ga i).vn (ga i).m (ga i).ts) := h4
    have hn := hB.1
    have hR := Row4.made w (Bt (w.heap.size + 1) (w.alloc (.cells (madeCells (Value.agg #[.string ⟨#[]⟩, .slice none 0 0, .slice none 0 0, .int .i64 0]).cells (n * 4)) 31)).heap.size) d (.agg #[.string ⟨#[]⟩, .slice none 0 0, .slice none 0 0, .int .i64 0]) 31 n ga
    have hbl : Below w.heap.size w (w.alloc (.cells (madeCells (Value.agg #[.string ⟨#[]⟩, .slice none 0 0, .slice none 0 0, .int .i64 0]).cells (n * 4)) 31)) := (Below.refl _ _).alloc (Nat.le_refl _) _
    have hz : Hid (w.heap.size < (w.alloc (.cells (madeCells (Value.agg #[.string ⟨#[]⟩, .slice none 0 0, .slice none 0 0, .int .i64 0]).cells (n * 4)) 31)).heap.size) := by show _ < _; simp
    clear hB hx h5
    go_enter Try.func19, Try.ntmps19
    go_wp2_with fail
    go_loopw [4] (fun i wr => ∃ j : Nat, i = .int .i64 j ∧ j ≤ n ∧ Row4 wr (Bt (w.heap.size + 1) wr.heap.size) d w.heap.size n j ga ∧ Below w.heap.size w wr ∧ Hid (w.heap.size < wr.heap.size)) (fun i _ => n - (intOf i).toNat)
    case atStart => exact ⟨0, rfl, Nat.zero_le _, hR, hbl, hz⟩
    case round =>
      clear hR hbl hz
      obtain ⟨j, rfl, hj, hR, hbl, hz⟩ := hrel
      by_cases hlt : j < n
      · obtain ⟨b, o, va, vv, rfl, g0, g1, g2, g3, g4, g5, g6⟩ := h4.out j hlt
        have q := fun x => hbl.cell (p := ⟨b, x, none⟩) g0
        replace g1 := (q _).trans g1
        replace g2 := (q _).trans g2
        replace g3 := (q _).trans g3
        replace g4 := (q _).trans g4
        have hE : El wr (Dn wr.heap.size) d va vv (ga j) := El.frame (w := w) (S := Dn w.heap.size) ⟨g5, g6⟩ fun b hb => ⟨hbl.block b hb, Nat.lt_of_lt_of_le hb hbl.size⟩
        have HC := H wr (ga j) va vv hE (hB2.out j hlt).1 (hB2.out j hlt).2
        have i1 : (j : Int) < n := by omega
        clear q g5 g6 hE
        go_wp2_with fail
        refine HC.mono ?_
        rintro e w' ⟨va', vv', rfl, hE', l⟩
        clear HC
        obtain ⟨y1, k1, rfl, -⟩ := hE'.1.form
        obtain ⟨y2, k2, rfl, -⟩ := hE'.2.form
        have hz1 := hz.out
        have hz2 := l.size
        have hR' : Row4 w' (Bt (w.heap.size + 1) w'.heap.size) d w.heap.size n j ga := hR.frame (l.block _ hz1) fun b hb => ⟨l.block b hb.2, hb.1, Nat.lt_of_lt_of_le hb.2 hz2⟩
        have hE2 : El w' (Bt (w.heap.size + 1) w'.heap.size) d (.slice y1 (ga j).n k1) (.slice y2 (ga j).m k2) (ga j) := hE'.frame fun b hb => ⟨rfl, by have := hb.1; omega, hb.2⟩
        have hR2 := hR'.put hlt (by intro h; have := h.1; omega) hE2
        have hb2 := below_set4 (o := j * 4) (hbl.trans (l.mono (by omega))) (Nat.le_refl w.heap.size) (.string (ga j).name) (.slice y1 (ga j).n k1) (.slice y2 (ga j).m k2) (.int .i64 (ga j).off)
        have hz3 : Hid (w.heap.size < (set4 w' w.heap.size (j * 4) (.string (ga j).name) (.slice y1 (ga j).n k1) (.slice y2 (ga j).m k2) (.int .i64 (ga j).off)).heap.size) := by show _ < _; rw [size_set4]; omega
        obtain ⟨u0, s0⟩ := Option.isSome_iff_exists.1 (hR'.s (j * 4) (by omega))
        obtain ⟨u1, s1⟩ := Option.isSome_iff_exists.1 (hR'.s (j * 4 + 1) (by omega))
        obtain ⟨u2, s2⟩ := Option.isSome_iff_exists.1 (hR'.s (j * 4 + 2) (by omega))
        obtain ⟨u3, s3⟩ := Option.isSome_iff_exists.1 (hR'.s (j * 4 + 3) (by omega))
        have f := hR'.f
        have hR3 : Hid (Row4 (set4 w' w.heap.size (j * 4) (.string (ga j).name) (.slice y1 (ga j).n k1) (.slice y2 (ga j).m k2) (.int .i64 (ga j).off)) (Bt (w.heap.size + 1) (set4 w' w.heap.size (j * 4) (.string (ga j).name) (.slice y1 (ga j).n k1) (.slice y2 (ga j).m k2) (.int .i64 (ga j).off)).heap.size) d w.heap.size n (j + 1) ga) := by rw [size_set4]; exact hR2
        clear hR2 hE2 hE' hR' hR l hz1 hz2
        go_wp2
        go_roundw
        case rel => exact ⟨j + 1, by go_num, by omega, hR3.out, hb2, hz3⟩
        case measure => simp [intOf]; omega
      · have i1 : decide ((j : Int) < n) = false := by simp; omega
        have hjn : j = n := by omega
        rw [hjn] at hR
        have hr : Hid (RdA wr (Bt w.heap.size wr.heap.size) (d + 1) (.slice (some ⟨w.heap.size, 0, none⟩) n n) false n ga) := hR.rd ⟨Nat.le_refl _, hz.out⟩ (fun b hb => ⟨by have := hb.1; omega, hb.2⟩) _
        clear hjn h4 hB2
        go_wp2
        go_ret
        exact ⟨_, rfl, hr.out, hbl⟩


theorem cl6_all : ∀ d, CL 6 d ∧ CE 12 d
  | 0 => ⟨fun _ _ _ _ _ h => h.elim, fun _ _ _ _ h => h.1.elim⟩
  | d + 1 => by
    have h := cl6 d (cl6_all d).2
    exact ⟨h, ce12 _ h⟩
theorem cl14_all : ∀ d, CL 14 d ∧ CE 18 d
  | 0 => ⟨fun _ _ _ _ _ h => h.elim, fun _ _ _ _ h => h.1.elim⟩
  | d + 1 => by
    have h := cl14 d (cl14_all d).2
    exact ⟨h, ce18 _ h⟩
theorem cl19_all : ∀ d, CL 19 d ∧ CE 15 d
  | 0 => ⟨fun _ _ _ _ _ h => h.elim, fun _ _ _ _ h => h.1.elim⟩
  | d + 1 => by
    have h := cl19 d (cl19_all d).2
    exact ⟨h, ce15 _ h⟩
end Go.Proofs.Qxb6602150a
