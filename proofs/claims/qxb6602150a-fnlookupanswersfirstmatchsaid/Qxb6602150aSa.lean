import Derived.Test.Qxb6602150aCl
namespace Go.Proofs.Qxb6602150a
open Go.RowKit

/-- zzB1SameArg, zzB1SameArgs: two readings of one tree are the same. -/
def SE (d : Nat) : Prop := ∀ (w : World) (a : Ag) (va vv va2 vv2 : Value), El w (Dn w.heap.size) d va vv a → El w (Dn w.heap.size) d va2 vv2 a → BdA d a.n a.gs → a.m ≤ 1048576 →
  Calls Try.prog 9 #[.agg #[.string a.name, va, vv, .int .i64 a.off], .agg #[.string a.name, va2, vv2, .int .i64 a.off]] w fun e w' => e = .returned (.bool true) ∧ Below w.heap.size w w'
def SL (d : Nat) : Prop := ∀ (w : World) (v v2 : Value) (nl : Bool) (n : Nat) (ga : Nat → Ag), RdA w (Dn w.heap.size) d v nl n ga → RdA w (Dn w.heap.size) d v2 nl n ga → BdA d n ga →
  Calls Try.prog 16 #[v, v2] w fun e w' => e = .returned (.bool true) ∧ Below w.heap.size w w'

set_option maxRecDepth 100000 in
set_option maxHeartbeats 16000000 in
theorem sl16 (d : Nat) (H : SE d) : SL (d + 1) := by
  intro w v v2 nl n ga hA hA2 hB
  obtain ⟨x, c, rfl, hx⟩ := hA.form
  obtain ⟨x2, c2, rfl, hx2⟩ := hA2.form
  have hq1 : ∀ w, (binOp .eql 28 (.slice x n c) (.slice none 0 0)).run Try.prog w = .ok (.bool nl) w := fun w => by rw [← hx]; exact Lib.run_eql_slice_nil w 28 31 x n c 0 0 Try.underlying28
  have hq2 : ∀ w, (binOp .eql 22 (.slice x2 n c2) (.slice none 0 0)).run Try.prog w = .ok (.bool nl) w := fun w => by rw [← hx2]; exact Lib.run_eql_slice_nil w 22 27 x2 n c2 0 0 Try.underlying22
  have hn : n ≤ 1048576 := hB.1
  have hB2 : Hid (∀ i, i < n → BdA d (ga i).n (ga i).gs ∧ (ga i).m ≤ 1048576) := hB.2
  have hA : Hid _ := hA
  have hA2 : Hid _ := hA2
  clear hx hx2 hB
  go_enter Try.func16, Try.ntmps16
  go_wp2_with fail
  go_loopw [5] (fun i wr => ∃ j : Nat, i = .int .i64 j ∧ j ≤ n ∧ Below w.heap.size w wr) (fun i _ => n - (intOf i).toNat)
  case atStart => exact ⟨0, rfl, Nat.zero_le _, Below.refl _ _⟩
  case round =>
    obtain ⟨j, rfl, hj, hb⟩ := hrel
    by_cases hlt : j < n
    · obtain ⟨b, o, va, vv, rfl, g0, g1, g2, g3, g4, g5, g6⟩ : ∃ b o va vv, x = some ⟨b, o, none⟩ ∧ b < w.heap.size ∧ w.cell? ⟨b, o + j * 4, none⟩ = some (.string (ga j).name) ∧ w.cell? ⟨b, o + j * 4 + 1, none⟩ = some va ∧ w.cell? ⟨b, o + j * 4 + 2, none⟩ = some vv ∧ w.cell? ⟨b, o + j * 4 + 3, none⟩ = some (.int .i64 (ga j).off) ∧ El w (Dn w.heap.size) d va vv (ga j) ∧ True := by
        rcases hA.out with ⟨_, h, _⟩ | ⟨_, ad, c', h3, h4⟩
        · omega
        · injection h3 with h3 _ _
          obtain ⟨b, o, va, vv, h, g0, g1, g2, g3, g4, g5, g6⟩ := h4 j hlt
          exact ⟨b, o, va, vv, by rw [h3, h], g0, g1, g2, g3, g4, ⟨g5, g6⟩, trivial⟩
      obtain ⟨b', o', va', vv', rfl, g0', g1', g2', g3', g4', g5', -⟩ : ∃ b o va vv, x2 = some ⟨b, o, none⟩ ∧ b < w.heap.size ∧ w.cell? ⟨b, o + j * 4, none⟩ = some (.string (ga j).name) ∧ w.cell? ⟨b, o + j * 4 + 1, none⟩ = some va ∧ w.cell? ⟨b, o + j * 4 + 2, none⟩ = some vv ∧ w.cell? ⟨b, o + j * 4 + 3, none⟩ = some (.int .i64 (ga j).off) ∧ El w (Dn w.heap.size) d va vv (ga j) ∧ True := by
        rcases hA2.out with ⟨_, h, _⟩ | ⟨_, ad, c', h3, h4⟩
        · omega
        · injection h3 with h3 _ _
          obtain ⟨b, o, va, vv, h, g0, g1, g2, g3, g4, g5, g6⟩ := h4 j hlt
          exact ⟨b, o, va, vv, by rw [h3, h], g0, g1, g2, g3, g4, ⟨g5, g6⟩, trivial⟩
      have HC := H wr.drew (ga j) va vv va' vv' (El.frame (w := w) (S := Dn w.heap.size) g5 fun b hb' => ⟨hb.block b hb', Nat.lt_of_lt_of_le hb' hb.size⟩) (El.frame (w := w) (S := Dn w.heap.size) g5' fun b hb' => ⟨hb.block b hb', Nat.lt_of_lt_of_le hb' hb.size⟩) (hB2.out j hlt).1 (hB2.out j hlt).2
      have gg : Hid (∀ w', Below w.heap.size w w' → (w'.cell? ⟨b, o + j * 4, none⟩ = some (.string (ga j).name) ∧ w'.cell? ⟨b, o + j * 4 + 1, none⟩ = some va ∧ w'.cell? ⟨b, o + j * 4 + 2, none⟩ = some vv ∧ w'.cell? ⟨b, o + j * 4 + 3, none⟩ = some (.int .i64 (ga j).off)) ∧
          w'.cell? ⟨b', o' + j * 4, none⟩ = some (.string (ga j).name) ∧ w'.cell? ⟨b', o' + j * 4 + 1, none⟩ = some va' ∧ w'.cell? ⟨b', o' + j * 4 + 2, none⟩ = some vv' ∧ w'.cell? ⟨b', o' + j * 4 + 3, none⟩ = some (.int .i64 (ga j).off)) := fun w' l => by
        have q := fun z => l.cell (p := ⟨b, z, none⟩) g0
        have q' := fun z => l.cell (p := ⟨b', z, none⟩) g0'
        exact ⟨⟨(q _).trans g1, (q _).trans g2, (q _).trans g3, (q _).trans g4⟩, (q' _).trans g1', (q' _).trans g2', (q' _).trans g3', (q' _).trans g4'⟩
      clear g1 g2 g3 g4 g5 g6 g1' g2' g3' g4' g5' hA hA2 hq1 hq2
      obtain ⟨⟨e0, e1, e2, e3⟩, e4, e5, e6, e7⟩ := gg.out wr hb
      have i1 : (j : Int) < n := by omega
      go_wp2_with fail
      go_region_held3 (fun w' => w'.cell? ⟨b, o + j * 4, none⟩ = some (.string (ga j).name) ∧ w'.cell? ⟨b, o + j * 4 + 1, none⟩ = some va ∧ w'.cell? ⟨b, o + j * 4 + 2, none⟩ = some vv ∧ w'.cell? ⟨b, o + j * 4 + 3, none⟩ = some (.int .i64 (ga j).off) ∧
          w'.cell? ⟨b', o' + j * 4, none⟩ = some (.string (ga j).name) ∧ w'.cell? ⟨b', o' + j * 4 + 1, none⟩ = some va' ∧ w'.cell? ⟨b', o' + j * 4 + 2, none⟩ = some vv' ∧ w'.cell? ⟨b', o' + j * 4 + 3, none⟩ = some (.int .i64 (ga j).off)) (go_keep)
        (first | (go_at_call 9; refine HC.mono ?_; rintro e w' ⟨rfl, l⟩; have hb' : Below w.heap.size w w' := hb.trans ⟨l.os, l.tape, l.output, l.size, fun k hk => l.block k (Nat.lt_of_lt_of_le hk hb.size)⟩; obtain ⟨⟨k0, k1, k2, k3⟩, k4, k5, k6, k7⟩ := gg.out w' hb'))
      all_goals
        clear HC k0 k1 k2 k3 k4 k5 k6 k7
        go_wp2
        go_roundw
        case rel => exact ⟨j + 1, by go_num, by omega, hb'⟩
        case measure => simp [intOf]; omega
    · have i1 : decide ((j : Int) < n) = false := by simp; omega
      go_wp2
      go_ret
      exact ⟨rfl, hb⟩

/-- Two boxes side by side. -/
structure B2 (w wr : World) (name : ByteArray) (va vv va2 vv2 : Value) (off : Int) : Prop where
  a0 : wr.cell? ⟨w.heap.size, 0, none⟩ = some (.string name)
  a1 : wr.cell? ⟨w.heap.size, 1, none⟩ = some va
  a2 : wr.cell? ⟨w.heap.size, 2, none⟩ = some vv
  a3 : wr.cell? ⟨w.heap.size, 3, none⟩ = some (.int .i64 off)
  b0 : wr.cell? ⟨w.heap.size + 1, 0, none⟩ = some (.string name)
  b1 : wr.cell? ⟨w.heap.size + 1, 1, none⟩ = some va2
  b2 : wr.cell? ⟨w.heap.size + 1, 2, none⟩ = some vv2
  b3 : wr.cell? ⟨w.heap.size + 1, 3, none⟩ = some (.int .i64 off)
  bel : Below w.heap.size w wr

theorem B2.start (w : World) (name : ByteArray) (va vv va2 vv2 : Value) (off : Int) (t1 t2 : TypeId) :
    B2 w ((w.alloc (.cells #[.string name, va, vv, .int .i64 off] t1)).alloc (.cells #[.string name, va2, vv2, .int .i64 off] t2)) name va vv va2 vv2 off := by
  have hA : ((w.alloc (.cells #[.string name, va, vv, .int .i64 off] t1)).alloc (.cells #[.string name, va2, vv2, .int .i64 off] t2)).heap[w.heap.size]? = some (.cells #[.string name, va, vv, .int .i64 off] t1) :=
    (Go.Deep.blk_alloc_lt _ _ _ (by simp)).trans (Go.Deep.blk_alloc_new _ _)
  have e : (w.alloc (.cells #[.string name, va, vv, .int .i64 off] t1)).heap.size = w.heap.size + 1 := by simp
  have hB : ((w.alloc (.cells #[.string name, va, vv, .int .i64 off] t1)).alloc (.cells #[.string name, va2, vv2, .int .i64 off] t2)).heap[w.heap.size + 1]? = some (.cells #[.string name, va2, vv2, .int .i64 off] t2) := by
    rw [← e]
    exact Go.Deep.blk_alloc_new _ _
  exact ⟨by simp [World.cell?, hA], by simp [World.cell?, hA], by simp [World.cell?, hA], by simp [World.cell?, hA], by simp only [World.cell?, hB]; rfl, by simp only [World.cell?, hB]; rfl, by simp only [World.cell?, hB]; rfl, by simp only [World.cell?, hB]; rfl, ((Below.refl _ _).alloc (Nat.le_refl _) _).alloc (by simp) _⟩

theorem B2.drewN {w wr : World} {name : ByteArray} {va vv va2 vv2 : Value} {off : Int} (h : B2 w wr name va vv va2 vv2 off) (t : Nat) : B2 w (wr.drewN t) name va vv va2 vv2 off :=
  ⟨h.a0, h.a1, h.a2, h.a3, h.b0, h.b1, h.b2, h.b3, ⟨h.bel.os, h.bel.tape, h.bel.output, h.bel.size, h.bel.block⟩⟩

set_option maxRecDepth 100000 in
set_option maxHeartbeats 16000000 in
theorem se9 (d : Nat) (H : SL d) : SE d := by
  intro w a va vv va2 vv2 hE hE2 hB hm
  obtain ⟨x1, k1, rfl, -⟩ := hE.1.form
  obtain ⟨x2, k2, rfl, hx2⟩ := hE.2.form
  obtain ⟨y1, l1, rfl, -⟩ := hE2.1.form
  obtain ⟨y2, l2, rfl, hy2⟩ := hE2.2.form
  have hq1 : ∀ w, (binOp .eql 29 (.slice x2 a.m k2) (.slice none 0 0)).run Try.prog w = .ok (.bool a.vn) w := fun w => by rw [← hx2]; exact Lib.run_eql_slice_nil w 29 51 x2 a.m k2 0 0 Try.underlying29
  have hq2 : ∀ w, (binOp .eql 25 (.slice y2 a.m l2) (.slice none 0 0)).run Try.prog w = .ok (.bool a.vn) w := fun w => by rw [← hy2]; exact Lib.run_eql_slice_nil w 25 41 y2 a.m l2 0 0 Try.underlying25
  have hE : Hid _ := hE
  have hE2 : Hid _ := hE2
  have hst := B2.start w a.name (.slice x1 a.n k1) (.slice x2 a.m k2) (.slice y1 a.n l1) (.slice y2 a.m l2) a.off 31 27
  clear hx2 hy2
  go_enter Try.func9, Try.ntmps9
  go_wp2_with fail
  go_loopw [5] (fun i wr => ∃ j : Nat, i = .int .i64 j ∧ j ≤ a.m ∧ B2 w wr a.name (.slice x1 a.n k1) (.slice x2 a.m k2) (.slice y1 a.n l1) (.slice y2 a.m l2) a.off) (fun i _ => a.m - (intOf i).toNat)
  case atStart => exact ⟨0, rfl, Nat.zero_le _, hst⟩
  case round =>
    clear hst hq1 hq2
    obtain ⟨j, rfl, hj, hX⟩ := hrel
    have e2 := hX.a2
    have e6 := hX.b2
    by_cases hlt : j < a.m
    · obtain ⟨b, o, rfl, g0, g1, g2, g3⟩ : ∃ b o, x2 = some ⟨b, o, none⟩ ∧ b < w.heap.size ∧ w.cell? ⟨b, o + j * 3, none⟩ = some (.string (a.ts j).k) ∧ w.cell? ⟨b, o + j * 3 + 1, none⟩ = some (.string (a.ts j).t) ∧ w.cell? ⟨b, o + j * 3 + 2, none⟩ = some (.int .i64 (a.ts j).o) := by
        rcases hE.out.2 with ⟨_, h, _⟩ | ⟨_, ad, c', h3, h4⟩
        · omega
        · injection h3 with h3 _ _
          obtain ⟨b, o, h, g0, g1, g2, g3⟩ := h4 j hlt
          exact ⟨b, o, by rw [h3, h], g0, g1, g2, g3⟩
      obtain ⟨b', o', rfl, g0', g1', g2', g3'⟩ : ∃ b o, y2 = some ⟨b, o, none⟩ ∧ b < w.heap.size ∧ w.cell? ⟨b, o + j * 3, none⟩ = some (.string (a.ts j).k) ∧ w.cell? ⟨b, o + j * 3 + 1, none⟩ = some (.string (a.ts j).t) ∧ w.cell? ⟨b, o + j * 3 + 2, none⟩ = some (.int .i64 (a.ts j).o) := by
        rcases hE2.out.2 with ⟨_, h, _⟩ | ⟨_, ad, c', h3, h4⟩
        · omega
        · injection h3 with h3 _ _
          obtain ⟨b, o, h, g0, g1, g2, g3⟩ := h4 j hlt
          exact ⟨b, o, by rw [h3, h], g0, g1, g2, g3⟩
      replace g1 := (hX.bel.cell (p := ⟨b, _, none⟩) g0).trans g1
      replace g2 := (hX.bel.cell (p := ⟨b, _, none⟩) g0).trans g2
      replace g3 := (hX.bel.cell (p := ⟨b, _, none⟩) g0).trans g3
      replace g1' := (hX.bel.cell (p := ⟨b', _, none⟩) g0').trans g1'
      replace g2' := (hX.bel.cell (p := ⟨b', _, none⟩) g0').trans g2'
      replace g3' := (hX.bel.cell (p := ⟨b', _, none⟩) g0').trans g3'
      have i1 : (j : Int) < a.m := by omega
      clear hE hE2
      go_wp2_with fail
      go_quiet (fail)
      go_wp2
      go_roundw
      case rel => exact ⟨j + 1, by go_num, by omega, hX.drewN _⟩
      case measure => simp [intOf]; omega
    · have i1 : decide ((j : Int) < a.m) = false := by simp; omega
      have e1 := hX.a1
      have e5 := hX.b1
      have HC := H wr _ _ _ _ _ (RdA.frame (w := w) (S := Dn w.heap.size) (fun b hb' => ⟨hX.bel.block b hb', Nat.lt_of_lt_of_le hb' hX.bel.size⟩) hE.out.1) (RdA.frame (w := w) (S := Dn w.heap.size) (fun b hb' => ⟨hX.bel.block b hb', Nat.lt_of_lt_of_le hb' hX.bel.size⟩) hE2.out.1) hB
      go_wp2_with fail
      refine HC.mono ?_
      rintro e w' ⟨rfl, l⟩
      have hbl := hX.bel.trans (l.mono hX.bel.size)
      clear HC
      go_wp2
      go_ret
      exact ⟨rfl, hbl⟩

theorem sl_all : ∀ d, SL d ∧ SE d
  | 0 => ⟨fun _ _ _ _ _ _ h => h.elim, fun _ _ _ _ _ _ h => h.1.elim⟩
  | d + 1 => by
    have h := sl16 d (sl_all d).2
    exact ⟨h, se9 _ h⟩
end Go.Proofs.Qxb6602150a
