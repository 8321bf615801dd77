import Derived.Test.Qxb6601531aLaw6
import Derived.Test.Qxb6601531aSm3
import Derived.Deep.DeepCutAuto
import Derived.Deep.CutBlock
namespace Go.Proofs.Qxb6601531a
open Go.RowKit

/-- merge's answer, its ids and, where it has none, the buffer's counters. -/
theorem mc_agree {w6 w7 : World} {C1 C3 C6 n0 n2 n4 : Nat} {f g : Nat → ByteArray} {M : List Ent} {ob : Nat → Int} {e : Ending} (h : MC w6 w7 C6 n4 C1 C3 n0 n2 f g M ob e) (hn0 : n0 ≤ n4) (hn2 : n2 ≤ n4)
    (r1 : w7.rowIs C1 9 n0 (fun i => .string (f i))) (r3 : w7.rowIs C3 9 n2 (fun i => .string (g i))) :
    ∃ xi yi ci cv, e = .returned (.tuple #[.slice (some ⟨xi, yi, none⟩) M.length ci, cv]) ∧ Hid (∀ z, z < M.length → w7.cell? ⟨xi, yi + z, none⟩ = some (.string (mi M z))) ∧
      Hid ((cv = .slice none 0 0 ∧ M.length ≤ n4 ∧ ∀ z, z < M.length → w7.cell? ⟨C6, z, none⟩ = some (.int .u64 (mc M z))) ∨ ∃ b2 o2 c2, cv = .slice (some ⟨b2, o2, none⟩) M.length c2 ∧ ∀ z, z < M.length → w7.cell? ⟨b2, o2 + z, none⟩ = some (.int .u64 (mc M z))) := by
  rcases h.is with ⟨rfl, h2, h3, h4, h5⟩ | ⟨rfl, h2, h3, h4, h5⟩ | ⟨b1, o1, c1, b2, o2, c2, rfl, h2, h3, h4, h5, h6, h7⟩
  · exact ⟨C3, 0, n2, _, by rw [h2], fun z hz => by rw [Nat.zero_add, h3 z (by omega)]; exact r3.cell (by omega), .inl ⟨rfl, by omega, fun z hz => h5 z (by omega)⟩⟩
  · exact ⟨C1, 0, n0, _, by rw [h2], fun z hz => by rw [Nat.zero_add, h3 z (by omega)]; exact r1.cell (by omega), .inl ⟨rfl, by omega, fun z hz => h5 z (by omega)⟩⟩
  · exact ⟨b1, o1, c1, _, rfl, h4, .inr ⟨b2, o2, c2, rfl, h5⟩⟩

set_option maxRecDepth 100000 in
set_option maxHeartbeats 8000000 in
theorem law7 (a0 a1 a2 a3 : Option Addr) (n0 c0 n1 c1 n2 c2 n3 c3 : Nat) (f : Nat → ByteArray) (fc : Nat → Int) (g : Nat → ByteArray) (gc : Nat → Int) (w : World)
    (h0 : SA w a0 n0 f) (h1 : UA w a1 n1 fc) (h2 : SA w a2 n2 g) (h3 : UA w a3 n3 gc) (hsz : Hid (∀ i, i < n0 → (f i).size ≤ 9223372036854775807)) :
    Calls Try.prog 7 #[.slice a0 n0 c0, .slice a1 n1 c1, .slice a2 n2 c2, .slice a3 n3 c3] w fun e w' => e = .returned (.bool true) ∧ Below w.heap.size w w' := by
  go_enter Try.func7, Try.ntmps7
  go_wp2_with fail
  refine (zz25 a0 a1 a2 a3 n0 c0 n1 c1 n2 c2 n3 c3 f g _ h0 h2).mono ?_
  rintro e w' ⟨⟨b, rfl⟩, hw'⟩
  have hw := hw'.symm
  subst hw
  cases b with
  | false =>
    go_wp2
    go_ret
    exact ⟨rfl, Below.refl _ _⟩
  | true =>
  go_wp2_with fail
  refine (argsFit a0 a1 a2 a3 n0 c0 n1 c1 n2 c2 n3 c3 0 f g _ h0 h2).mono ?_
  rintro e w' ⟨⟨b, rfl, hb⟩, hw'⟩
  have hw := hw'.symm
  subst hw
  clear hb
  cases b with
  | false =>
    go_wp2
    go_ret
    exact ⟨rfl, Below.refl _ _⟩
  | true =>
  go_wp2_with fail
  refine (smallDomain a0 a1 a2 a3 n0 c0 n1 c1 n2 c2 n3 c3 f g _ h0 h2).mono ?_
  rintro e w' ⟨⟨b, rfl, hb⟩, t, rfl⟩
  cases b with
  | false =>
    go_wp2
    go_ret
    exact ⟨rfl, below_drewN t⟩
  | true =>
  obtain ⟨⟨⟨p0, q0, sf⟩, p2, q2, sg⟩, m0, m2⟩ := hb rfl
  clear hb
  subst q0 q2
  have sf : Hid (Sorted f n0) := sf
  have sg : Hid (Sorted g n2) := sg
  obtain ⟨b0, o0, rfl, H0⟩ := h0 p0
  obtain ⟨b1, o1, rfl, H1⟩ := h1 p0
  obtain ⟨b2, o2, rfl, H2⟩ := h2 p2
  obtain ⟨b3, o3, rfl, H3⟩ := h3 p2
  have l0 := cell_lt (H0 0 p0)
  have l1 := cell_lt (H1 0 p0)
  have l2 := cell_lt (H2 0 p2)
  have l3 := cell_lt (H3 0 p2)
  obtain ⟨w0, hw0⟩ : ∃ w0, Hid (w0 = w.drewN t) := ⟨_, rfl⟩
  have B0 : Below w.heap.size w w0 := by rw [hw0.out]; exact below_drewN t
  obtain ⟨C1, hC1⟩ : ∃ C, Hid (C = w0.heap.size) := ⟨_, rfl⟩
  have z0 : Hid (w.heap.size = C1) := by show _ = _; rw [hC1.out, hw0.out]; rfl
  rw [← hw0.out]
  clear hw0
  go_wp2_with fail
  refine (cloneS b0 o0 n0 c0 C1 (by omega) f _ hC1 (Nat.lt_of_lt_of_le l0 B0.size) (fun i hi => (B0.cell (p := ⟨b0, _, none⟩) l0).trans (H0 i hi))).mono ?_
  rintro e w1 ⟨rfl, r1, z1, k1⟩
  obtain ⟨C2, hC2⟩ : ∃ C, Hid (C = w1.heap.size) := ⟨_, rfl⟩
  have d1 : Hid (C2 = C1 + 1) := by have := z1.out; have := hC2.out; show _ = _; omega
  have B1 := B0.trans (k1.mono (by have := z0.out; omega))
  go_wp2_with fail
  refine (cloneU b1 o1 n0 c1 C2 (by omega) fc _ hC2 (Nat.lt_of_lt_of_le l1 B1.size) (fun i hi => (B1.cell (p := ⟨b1, _, none⟩) l1).trans (H1 i hi))).mono ?_
  rintro e w2 ⟨rfl, r2, z2, k2⟩
  obtain ⟨C3, hC3⟩ : ∃ C, Hid (C = w2.heap.size) := ⟨_, rfl⟩
  have d2 : Hid (C3 = C1 + 2) := by have := z2.out; have := hC3.out; have := d1.out; show _ = _; omega
  have B2 := B1.trans (k2.mono (by have := z0.out; have := d1.out; omega))
  replace r1 := row_keep r1 k2 (by have := d1.out; omega)
  go_wp2_with fail
  refine (cloneS b2 o2 n2 c2 C3 (by omega) g _ hC3 (Nat.lt_of_lt_of_le l2 B2.size) (fun i hi => (B2.cell (p := ⟨b2, _, none⟩) l2).trans (H2 i hi))).mono ?_
  rintro e w3 ⟨rfl, r3, z3, k3⟩
  obtain ⟨C4, hC4⟩ : ∃ C, Hid (C = w3.heap.size) := ⟨_, rfl⟩
  have d3 : Hid (C4 = C1 + 3) := by have := z3.out; have := hC4.out; have := d2.out; show _ = _; omega
  have B3 := B2.trans (k3.mono (by have := z0.out; have := d2.out; omega))
  replace r1 := row_keep r1 k3 (by have := d2.out; omega)
  replace r2 := row_keep r2 k3 (by have := d2.out; have := d1.out; omega)
  go_wp2_with fail
  refine (cloneU b3 o3 n2 c3 C4 (by omega) gc _ hC4 (Nat.lt_of_lt_of_le l3 B3.size) (fun i hi => (B3.cell (p := ⟨b3, _, none⟩) l3).trans (H3 i hi))).mono ?_
  rintro e w4 ⟨rfl, r4, z4, k4⟩
  obtain ⟨C5, hC5⟩ : ∃ C, Hid (C = w4.heap.size) := ⟨_, rfl⟩
  have d4 : Hid (C5 = C1 + 4) := by have := z4.out; have := hC5.out; have := d3.out; show _ = _; omega
  have B4 := B3.trans (k4.mono (by have := z0.out; have := d3.out; omega))
  replace r1 := row_keep r1 k4 (by have := d3.out; omega)
  replace r2 := row_keep r2 k4 (by have := d3.out; have := d1.out; omega)
  replace r3 := row_keep r3 k4 (by have := d3.out; have := d2.out; omega)
  clear H0 H1 H2 H3 h0 h1 h2 h3 B0 B1 B2 B3 k1 k2 k3 k4 l0 l1 l2 l3
  have hcs : Hid (w.heap.size = C1 ∧ C2 = C1 + 1 ∧ C3 = C1 + 2 ∧ C4 = C1 + 3 ∧ w4.heap.size = C1 + 4) := by
    refine ⟨z0.out, d1.out, d2.out, d3.out, ?_⟩
    have := hC5.out
    have := d4.out
    omega
  clear hC1 hC2 hC3 hC4 hC5 z0 z1 z2 z3 z4 d1 d2 d3 d4
  obtain ⟨M, hM⟩ : ∃ M, Hid (M = mu (ents f fc n0 0) (ents g gc n2 0)) := ⟨_, rfl⟩
  go_wp2_with fail
  refine (zzSmall C1 C2 C3 C4 n0 n2 f fc g gc w4 M hM r1 r2 r3 r4 p0 p2 m0 m2 hsz).mono ?_
  rintro e w5 ⟨bi, oi, ci, bc, oc, cc, rfl, si, sc, k5⟩
  have hlt : Hid (C1 < w4.heap.size ∧ C2 < w4.heap.size ∧ C3 < w4.heap.size ∧ C4 < w4.heap.size) := by
    have := hcs.out
    refine ⟨?_, ?_, ?_, ?_⟩ <;> omega
  replace r1 := row_keep r1 k5 hlt.out.1
  replace r2 := row_keep r2 k5 hlt.out.2.1
  replace r3 := row_keep r3 k5 hlt.out.2.2.1
  replace r4 := row_keep r4 k5 hlt.out.2.2.2
  have B5 : Below w.heap.size w w5 := B4.trans (k5.mono B4.size)
  have z5 : Hid (w4.heap.size ≤ w5.heap.size) := k5.size
  have si : Hid (∀ z, z < M.length → w5.cell? ⟨bi, oi + z, none⟩ = some (.string (mi M z))) := si
  have sc : Hid (∀ z, z < M.length → w5.cell? ⟨bc, oc + z, none⟩ = some (.int .u64 (mc M z))) := sc
  clear k5 B4
  obtain ⟨n4, hn4⟩ : ∃ x, Hid (x = max n0 n2) := ⟨_, rfl⟩
  have hn4b : n4 ≤ 16 := by rw [hn4.out]; omega
  have hn40 : n0 ≤ n4 := by rw [hn4.out]; omega
  have hn42 : n2 ≤ n4 := by rw [hn4.out]; omega
  have hmk := run_make_row' (P := Try.prog) 23 26 (.int .u64 0) 8 Try.underlying23 Try.info26 rfl .i64 .i64 n4 (by omega) (by omega)
  go_wp2_with fail
  refine (maxLen_any n0 n2 _).mono ?_
  rintro e w' ⟨rfl, hw'⟩
  have hw := hw'.symm
  subst hw
  rw [← hn4.out]
  obtain ⟨C6, hC6⟩ : ∃ C, Hid (C = w5.heap.size) := ⟨_, rfl⟩
  obtain ⟨w6, hw6⟩ : ∃ x, Hid (x = w5.alloc (.cells (madeCells #[.int .u64 0] n4) 26)) := ⟨_, rfl⟩
  have r6 : w6.rowIs C6 26 n4 (fun _ => .int .u64 0) := by rw [hw6.out, hC6.out]; exact World.rowIs_made w5 (.int .u64 0) n4 26
  have k6 : Below w5.heap.size w5 w6 := by rw [hw6.out]; exact (Below.refl _ _).alloc (Nat.le_refl _) _
  have hlt5 : Hid (C1 < w5.heap.size ∧ C2 < w5.heap.size ∧ C3 < w5.heap.size ∧ C4 < w5.heap.size) := by
    have := hlt.out
    have := z5.out
    refine ⟨?_, ?_, ?_, ?_⟩ <;> omega
  replace r1 := row_keep r1 k6 hlt5.out.1
  replace r2 := row_keep r2 k6 hlt5.out.2.1
  replace r3 := row_keep r3 k6 hlt5.out.2.2.1
  replace r4 := row_keep r4 k6 hlt5.out.2.2.2
  have B6 : Below w.heap.size w w6 := B5.trans (k6.mono B5.size)
  have hF : Five w6 C1 C2 C3 C4 C6 n0 n2 n4 f fc g gc (fun _ => 0) := ⟨r1, r2, r3, r4, r6, by have := hlt5.out; have := hC6.out; refine ⟨?_, ?_, ?_, ?_⟩ <;> omega⟩
  have hnm : Hid (∀ b, b < w5.heap.size → b < w6.heap.size ∧ b ≠ C6) := fun b hb => by have := hC6.out; have := k6.size; constructor <;> omega
  have HZ := zzMerge C1 C2 C3 C4 n0 n2 C6 n4 f fc g gc (fun _ => 0) w6 M hM hF p0 p2 hn40 hn42 (by omega) (by omega) sf sg
  have HZ' := HZ
  rw [hw6.out, hC6.out] at HZ'
  go_wp2_with fail
  refine HZ'.mono ?_
  rw [← hC6.out, ← hw6.out]
  intro e w7 hMC
  clear HZ HZ' hmk
  have kp : ∀ {b t n : Nat} {F : Nat → Value}, w6.rowIs b t n F → b < w5.heap.size → w7.rowIs b t n F := fun {b} {t} {n} {F} h h1 => h.of_block (hMC.gr.block _ (hnm.out b h1).1 (by intro e; injection e with e; exact (hnm.out b h1).2 e))
  replace r1 := kp r1 hlt5.out.1
  replace r3 := kp r3 hlt5.out.2.2.1
  have ck : ∀ b o v, w5.cell? ⟨b, o, none⟩ = some v → w7.cell? ⟨b, o, none⟩ = some v := fun b o v h => by
    have hb := cell_lt h
    rw [cell_grown hMC.gr (hnm.out b hb), k6.cell (p := ⟨b, o, none⟩) hb]
    exact h
  replace si : Hid (∀ z, z < M.length → w7.cell? ⟨bi, oi + z, none⟩ = some (.string (mi M z))) := fun z hz => ck _ _ _ (si.out z hz)
  replace sc : Hid (∀ z, z < M.length → w7.cell? ⟨bc, oc + z, none⟩ = some (.int .u64 (mc M z))) := fun z hz => ck _ _ _ (sc.out z hz)
  have B7 : Below w.heap.size w w7 := B6.grown hMC.gr B6.size (by have := B5.size; have := hC6.out; intro k e; injection e with e; omega)
  obtain ⟨xi, yi, xn, cv, rfl, hx, hcv⟩ := mc_agree hMC hn40 hn42 r1 r3
  have hml : M.length ≤ 32 := by
    rw [hM.out]
    have := mu_length_le (ents f fc n0 0) (ents g gc n2 0)
    rw [ents_length, ents_length] at this
    omega
  clear kp ck hMC hF hM r1 r2 r3 r4 r6 B5 B6 k6 hnm hlt hlt5 hcs z5
  generalize hml0 : M.length = Q at *
  go_upto_region 14 with fail
  go_cut [66] from 65 to 65 (fun v wx => wx = w7 ∧ ∃ nb : Bool, v = .bool nb ∧ Hid ((nb = true ∧ Q ≤ n4 ∧ ∀ z, z < Q → w7.cell? ⟨C6, z, none⟩ = some (.int .u64 (mc M z))) ∨ (nb = false ∧ ∃ y1 y2 y3, cv = .slice (some ⟨y1, y2, none⟩) Q y3 ∧ ∀ z, z < Q → w7.cell? ⟨y1, y2 + z, none⟩ = some (.int .u64 (mc M z)))))
  case first =>
    rcases hcv.out with ⟨rfl, g1, g2⟩ | ⟨y1, y2, y3, rfl, g2⟩
    · have hqn : ∀ w, (binOp .eql 23 (.slice none 0 0) (.slice none 0 0)).run Try.prog w = .ok (.bool true) w := fun w => Lib.run_eql_slice_nil w 23 26 none 0 0 0 0 Try.underlying23
      have g3 : Hid _ := And.intro g1 g2
      clear hcv
      go_wp2_with fail
      go_meet
      case rel => exact ⟨rfl, true, rfl, .inl ⟨rfl, g3.out⟩⟩
    · have hq : ∀ w, (binOp .eql 23 (.slice (some ⟨y1, y2, none⟩) Q y3) (.slice none 0 0)).run Try.prog w = .ok (.bool false) w := fun w => Lib.run_eql_slice_nil w 23 26 _ Q y3 0 0 Try.underlying23
      have g3 : Hid _ := g2
      clear hcv
      go_wp2_with fail
      go_meet
      case rel => exact ⟨rfl, false, rfl, .inr ⟨rfl, y1, y2, y3, rfl, g3.out⟩⟩
  case rest =>
    clear hcv
    obtain ⟨rfl, nb, rfl, hcv⟩ := hcut
    go_upto_if 66 with fail
    go_cut [13] from 67 to 75 (fun v wx => wx = wc ∧ ∃ xc yc cc, v = .slice (some ⟨xc, yc, none⟩) Q cc ∧ Hid (∀ z, z < Q → wc.cell? ⟨xc, yc + z, none⟩ = some (.int .u64 (mc M z))))
    case first =>
      rcases hcv.out with ⟨rfl, g1, g2⟩ | ⟨rfl, y1, y2, y3, rfl, g2⟩
      · have i1 : (Q : Int) ≤ n4 := by omega
        have i2 : decide ((n4 : Int) < Q) = false := by simp; omega
        have g3 : Hid (∀ z, z < Q → wc.cell? ⟨C6, 0 + z, none⟩ = some (.int .u64 (mc M z))) := fun z hz => by rw [Nat.zero_add]; exact g2 z hz
        clear hcv g2
        go_wp2_with fail
        go_meet
        case rel => exact ⟨rfl, C6, 0, n4, rfl, g3⟩
      · have g3 : Hid (∀ z, z < Q → wc.cell? ⟨y1, y2 + z, none⟩ = some (.int .u64 (mc M z))) := g2
        clear hcv g2
        go_wp2_with fail
        go_meet
        case rel => exact ⟨rfl, y1, y2, y3, rfl, g3⟩
    case rest =>
      clear hcv
      obtain ⟨rfl, xc, yc, xcc, rfl, hc⟩ := hcut
      go_wp2_with fail
      go_loopw [14] (fun i wr => ∃ x : Nat, i = .int .i64 x ∧ x ≤ Q ∧ DW wc wr) (fun i _ => Q - (intOf i).toNat)
      case atStart => exact ⟨0, rfl, Nat.zero_le _, .refl _⟩
      case round =>
        obtain ⟨x, rfl, hxQ, hD⟩ := hrel
        by_cases hlt : x < Q
        · have e1 : wr.cell? ⟨xi, yi + x, none⟩ = some (.string (mi M x)) := by obtain ⟨t, rfl⟩ := hD; exact hx.out x hlt
          have e2 : wr.cell? ⟨bi, oi + x, none⟩ = some (.string (mi M x)) := by obtain ⟨t, rfl⟩ := hD; exact si.out x hlt
          have i1 : (x : Int) < Q := by omega
          go_wp2
          go_quiet (fail)
          go_wp2
          go_roundw
          case rel => exact ⟨x + 1, by go_num, by omega, hD.drewN _⟩
          case measure => simp [intOf]; omega
        · have i1 : decide ((x : Int) < Q) = false := by simp; omega
          go_wp2_with fail
          go_loopw [15] (fun i wr => ∃ x : Nat, i = .int .i64 x ∧ x ≤ Q ∧ DW wc wr) (fun i _ => Q - (intOf i).toNat)
          case atStart => exact ⟨0, rfl, Nat.zero_le _, hD⟩
          case round =>
            clear hD i1
            obtain ⟨y, rfl, hyQ, hD⟩ := hrel
            by_cases hlt : y < Q
            · have e1 : wr.cell? ⟨xc, yc + y, none⟩ = some (.int .u64 (mc M y)) := by obtain ⟨t, rfl⟩ := hD; exact hc.out y hlt
              have e2 : wr.cell? ⟨bc, oc + y, none⟩ = some (.int .u64 (mc M y)) := by obtain ⟨t, rfl⟩ := hD; exact sc.out y hlt
              have i1 : (y : Int) < Q := by omega
              go_wp2
              go_quiet (fail)
              go_wp2
              go_roundw
              case rel => exact ⟨y + 1, by go_num, by omega, hD.drewN _⟩
              case measure => simp [intOf]; omega
            · have i1 : decide ((y : Int) < Q) = false := by simp; omega
              have hB := B7.trans (hD.below w.heap.size)
              go_wp2
              go_ret
              exact ⟨rfl, hB⟩
end Go.Proofs.Qxb6601531a
