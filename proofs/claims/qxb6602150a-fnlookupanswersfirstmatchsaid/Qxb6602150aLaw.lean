import Derived.Test.Qxb6602150aZl
import Derived.Test.Qxb6602150aZz
import Derived.Test.Qxb6602150aSa
import Derived.Test.Qxb6602150aAb
namespace Go.Proofs.Qxb6602150a
open Go.RowKit

/-- The scan from the back: the least index from Z on that bears the name. -/
def Ix (ga : Nat → Ag) (n : Nat) (x : ByteArray) (Z : Nat) (v : Value) : Prop :=
  (v = .int .i64 (-1) ∧ ∀ q, Z ≤ q → q < n → (ga q).name.toList ≠ x.toList) ∨ (∃ k : Nat, v = .int .i64 k ∧ Z ≤ k ∧ k < n ∧ (ga k).name.toList = x.toList ∧ ∀ q, Z ≤ q → q < k → (ga q).name.toList ≠ x.toList)

set_option maxRecDepth 100000 in
set_option maxHeartbeats 16000000 in
theorem law3 (w : World) (d : Nat) (v : Value) (nl : Bool) (n : Nat) (ga : Nat → Ag) (x : ByteArray) (hx : x.size ≤ 140737488355328) (hA : RdA w (Dn w.heap.size) (d + 1) v nl n ga) (hW : WtA (d + 1) n ga) :
    Calls Try.prog 3 #[v, .string x] w fun e w' => e = .returned (.bool true) ∧ Below w.heap.size w w' := by
  obtain ⟨y0, c0, rfl, -⟩ := hA.form
  by_cases hl : 1048576 < x.size
  · have d1 : (1048576 : Int) < x.size := by omega
    go_enter Try.func3, Try.ntmps3
    go_wp2
    go_ret
    exact ⟨rfl, Below.refl _ _⟩
  have hsub : (1048576 : Int) - x.size = ((1048576 - x.size : Nat) : Int) := by omega
  have d1 : decide ((1048576 : Int) < x.size) = false := by simp; omega
  have HB := ab_all (d + 1) w _ _ nl n ga (1048576 - x.size) hA hW (by omega)
  generalize hl0 : 1048576 - x.size = l at *
  have hlb : l ≤ 1048576 := by omega
  clear hl0
  have hA : Hid _ := hA
  go_enter Try.func3, Try.ntmps3
  go_wp2_with fail
  refine HB.mono ?_
  rintro e w' ⟨⟨t, rfl, h1, h2⟩, hw'⟩
  have hw := hw'.symm
  subst hw
  clear HB hsub
  by_cases ht : t ≤ l
  case neg =>
    have d2 : (l : Int) < t := by omega
    have d2' : l < t := by omega
    go_wp2
    go_ret
    exact ⟨rfl, Below.refl _ _⟩
  have d2 : decide ((l : Int) < t) = false := by simp; omega
  have d2' : decide (l < t) = false := by simp; omega
  have hB : Hid (BdA (d + 1) n ga) := h2 ht
  have hn : n ≤ 1048576 := hB.out.1
  have H6 := (cl6_all (d + 1)).1 w _ nl n ga hA.out hB.out
  clear h2 hA hW
  go_wp2_with fail
  refine H6.mono ?_
  rintro e w1 ⟨v1, rfl, hA1, l1⟩
  obtain ⟨y1, c1, rfl, -⟩ := hA1.form
  have hA1 : Hid _ := hA1
  clear H6 d2 d2'
  go_wp2_with fail
  go_loopw [6, 7] (fun ix i wr => wr = w1 ∧ ∃ Z : Nat, i = .int .i64 ((Z : Int) - 1) ∧ Z ≤ n ∧ Hid (Ix ga n x Z ix)) (fun _ i _ => (intOf i + 1).toNat)
  case atStart => exact ⟨rfl, n, by go_num, Nat.le_refl _, .inl ⟨rfl, fun q h1 h2 => by omega⟩⟩
  case round =>
    obtain ⟨hwr, Z, rfl, hZ, hI⟩ := hrel
    have hwr := hwr.symm
    subst hwr
    cases Z with
    | succ Z =>
      have hz : ((Z + 1 : Nat) : Int) - 1 = (Z : Int) := by omega
      rw [hz]
      have hlt : Z < n := by omega
      obtain ⟨b, o, rfl, g1⟩ : ∃ b o, y1 = some ⟨b, o, none⟩ ∧ w1.cell? ⟨b, o + Z * 4, none⟩ = some (.string (ga Z).name) := by
        rcases hA1.out with ⟨_, h, _⟩ | ⟨_, ad, c', h3, h4⟩
        · omega
        · injection h3 with h3 _ _
          obtain ⟨b, o, va, vv, h, g0, g1, _⟩ := h4 Z hlt
          exact ⟨b, o, by rw [h3, h], g1⟩
      have i0 : (0 : Int) ≤ Z := by omega
      have i1 : (Z : Int) < n := by omega
      by_cases he : (ga Z).name.toList = x.toList
      · have hd : ((ga Z).name.toList == x.toList) = true := by simp [he]
        have hI2 : Hid (Ix ga n x Z (.int .i64 (Z : Int))) := .inr ⟨Z, rfl, Nat.le_refl _, hlt, he, fun q h1 h2 => by omega⟩
        clear he hI
        go_wp2
        go_roundw
        case rel => exact ⟨by first | rfl | trivial, Z, by go_num, by omega, hI2⟩
        case measure => simp [intOf]
      · have hd : ((ga Z).name.toList == x.toList) = false := by simpa using he
        have hI2 : Hid (Ix ga n x Z u6) := by
          rcases hI.out with ⟨h1, h2⟩ | ⟨k, h1, h2, h3, h4, h5⟩
          · refine .inl ⟨h1, fun q q1 q2 => ?_⟩
            by_cases e : q = Z
            · rw [e]; exact he
            · exact h2 q (by omega) q2
          · refine .inr ⟨k, h1, by omega, h3, h4, fun q q1 q2 => ?_⟩
            by_cases e : q = Z
            · rw [e]; exact he
            · exact h5 q (by omega) q2
        clear he hI
        go_wp2
        go_roundw
        case rel => exact ⟨by first | rfl | trivial, Z, by go_num, by omega, hI2⟩
        case measure => simp [intOf]
    | zero =>
      have hz : ((0 : Nat) : Int) - 1 = -1 := rfl
      rw [hz]
      have H8 := cl8_all (d + 1) w1 _ nl n ga (RdA.frame (w := w1) (S := Bt w.heap.size w1.heap.size) (fun b hb => ⟨rfl, hb.2⟩) hA1.out) hB.out
      go_wp2_with fail
      refine H8.mono ?_
      rintro e w2 ⟨v2, rfl, hA2, l2⟩
      obtain ⟨y2, c2, rfl, -⟩ := hA2.form
      have H7 := zz7 w2 d _ nl n ga x (RdA.frame (w := w2) (S := Bt w1.heap.size w2.heap.size) (fun b hb => ⟨rfl, hb.2⟩) hA2) hB.out
      clear H8 hA2
      go_wp2_with fail
      refine H7.mono ?_
      rintro e w3 ⟨l3, hcase⟩
      clear H7
      have s1 := l1.size
      have s2 := l2.size
      have s3 := l3.size
      have b3 : Below w.heap.size w w3 := (l1.trans (l2.mono s1)).trans (l3.mono (Nat.le_trans s1 s2))
      rcases hcase with ⟨j, va, vv, hj, hm1, hm2, rfl, hE⟩ | ⟨hno, rfl⟩
      · have hix : u6 = .int .i64 (j : Int) := by
          rcases hI.out with ⟨h1, h2⟩ | ⟨k, h1, h2, h3, h4, h5⟩
          · exact absurd hm1 (h2 j (Nat.zero_le _) hj)
          · rcases Nat.lt_trichotomy k j with e | e | e
            · exact absurd h4 (hm2 k e)
            · rw [h1, e]
            · exact absurd hm1 (h5 j (Nat.zero_le _) e)
        subst hix
        obtain ⟨x1, k1, rfl, -⟩ := hE.1.form
        obtain ⟨x2, q2, rfl, -⟩ := hE.2.form
        obtain ⟨b, o, va1, vv1, rfl, g0, g1, g2, g3, g4, g5⟩ : ∃ b o va vv, y1 = some ⟨b, o, none⟩ ∧ b < w1.heap.size ∧ w1.cell? ⟨b, o + j * 4, none⟩ = some (.string (ga j).name) ∧ w1.cell? ⟨b, o + j * 4 + 1, none⟩ = some va ∧ w1.cell? ⟨b, o + j * 4 + 2, none⟩ = some vv ∧ w1.cell? ⟨b, o + j * 4 + 3, none⟩ = some (.int .i64 (ga j).off) ∧ El w1 (Bt w.heap.size w1.heap.size) d va vv (ga j) := by
          rcases hA1.out with ⟨_, h, _⟩ | ⟨_, ad, c', h3, h4⟩
          · omega
          · injection h3 with h3 _ _
            obtain ⟨b, o, va, vv, h, g0, g1, g2, g3, g4, g5, g6⟩ := h4 j hj
            exact ⟨b, o, va, vv, by rw [h3, h], g0.2, g1, g2, g3, g4, ⟨g5, g6⟩⟩
        have hN : (w3.alloc (.cells #[.string (ga j).name, .slice x1 (ga j).n k1, .slice x2 (ga j).m q2, .int .i64 (ga j).off] 31)).heap[w3.heap.size]? = some (.cells #[.string (ga j).name, .slice x1 (ga j).n k1, .slice x2 (ga j).m q2, .int .i64 (ga j).off] 31) := Go.Deep.blk_alloc_new _ _
        have c0 : (w3.alloc (.cells #[.string (ga j).name, .slice x1 (ga j).n k1, .slice x2 (ga j).m q2, .int .i64 (ga j).off] 31)).cell? ⟨w3.heap.size, 0, none⟩ = some (.string (ga j).name) := by simp only [World.cell?, hN]; rfl
        have c1 : (w3.alloc (.cells #[.string (ga j).name, .slice x1 (ga j).n k1, .slice x2 (ga j).m q2, .int .i64 (ga j).off] 31)).cell? ⟨w3.heap.size, 1, none⟩ = some (.slice x1 (ga j).n k1) := by simp only [World.cell?, hN]; rfl
        have c2 : (w3.alloc (.cells #[.string (ga j).name, .slice x1 (ga j).n k1, .slice x2 (ga j).m q2, .int .i64 (ga j).off] 31)).cell? ⟨w3.heap.size, 2, none⟩ = some (.slice x2 (ga j).m q2) := by simp only [World.cell?, hN]; rfl
        have c3 : (w3.alloc (.cells #[.string (ga j).name, .slice x1 (ga j).n k1, .slice x2 (ga j).m q2, .int .i64 (ga j).off] 31)).cell? ⟨w3.heap.size, 3, none⟩ = some (.int .i64 (ga j).off) := by simp only [World.cell?, hN]; rfl
        have z4 : w3.heap.size < (w3.alloc (.cells #[.string (ga j).name, .slice x1 (ga j).n k1, .slice x2 (ga j).m q2, .int .i64 (ga j).off] 31)).heap.size := by simp
        have l4 : Below w3.heap.size w3 (w3.alloc (.cells #[.string (ga j).name, .slice x1 (ga j).n k1, .slice x2 (ga j).m q2, .int .i64 (ga j).off] 31)) := (Below.refl _ _).alloc (Nat.le_refl _) _
        have i0 : decide ((j : Int) < 0) = false := by simp
        have i1 : (j : Int) < n := by omega
        clear hI hm1 hm2 hA1 hN
        go_wp2_with fail
        generalize w3.alloc (.cells #[.string (ga j).name, .slice x1 (ga j).n k1, .slice x2 (ga j).m q2, .int .i64 (ga j).off] 31) = w4 at *
        have l14 : Below w1.heap.size w1 w4 := (l2.trans (l3.mono s2)).trans (l4.mono (Nat.le_trans s2 s3))
        have b4 : Below w.heap.size w w4 := b3.trans (l4.mono (Nat.le_trans s1 (Nat.le_trans s2 s3)))
        have q := fun z => l14.cell (p := ⟨b, z, none⟩) g0
        have e0 := (q _).trans g1
        have e1 := (q _).trans g2
        have e2 := (q _).trans g3
        have e3 := (q _).trans g4
        have HC := (sl_all d).2 w4.drew (ga j) _ _ va1 vv1 (El.frame (w := w3) (S := Bt w2.heap.size w3.heap.size) hE fun b hb => ⟨l4.block b hb.2, by show b < w4.heap.size; have := hb.2; omega⟩)
          (El.frame (w := w1) (S := Bt w.heap.size w1.heap.size) g5 fun b hb => ⟨l14.block b hb.2, by show b < w4.heap.size; have := hb.2; omega⟩) (hB.out.2 j hj).1 (hB.out.2 j hj).2
        have gg : Hid (∀ w', Below w4.heap.size w4 w' → (w'.cell? ⟨b, o + j * 4, none⟩ = some (.string (ga j).name) ∧ w'.cell? ⟨b, o + j * 4 + 1, none⟩ = some va1 ∧ w'.cell? ⟨b, o + j * 4 + 2, none⟩ = some vv1 ∧ w'.cell? ⟨b, o + j * 4 + 3, none⟩ = some (.int .i64 (ga j).off)) ∧
            w'.cell? ⟨w3.heap.size, 0, none⟩ = some (.string (ga j).name) ∧ w'.cell? ⟨w3.heap.size, 1, none⟩ = some (.slice x1 (ga j).n k1) ∧ w'.cell? ⟨w3.heap.size, 2, none⟩ = some (.slice x2 (ga j).m q2) ∧ w'.cell? ⟨w3.heap.size, 3, none⟩ = some (.int .i64 (ga j).off)) := fun w' l => by
          have q1 := fun z => l.cell (p := ⟨b, z, none⟩) (by show b < w4.heap.size; omega)
          have q2 := fun z => l.cell (p := ⟨w3.heap.size, z, none⟩) z4
          exact ⟨⟨(q1 _).trans e0, (q1 _).trans e1, (q1 _).trans e2, (q1 _).trans e3⟩, (q2 _).trans c0, (q2 _).trans c1, (q2 _).trans c2, (q2 _).trans c3⟩
        have hBl : Hid (∀ w', Below w4.heap.size w4 w' → Below w.heap.size w w') := fun w' l => b4.trans (l.mono (by omega))
        clear q g1 g2 g3 g4 g5 hE l14 b4 b3 l1 l2 l3 l4 s1 s2 s3 z4 g0
        go_region_held3 (fun w' => w'.cell? ⟨b, o + j * 4, none⟩ = some (.string (ga j).name) ∧ w'.cell? ⟨b, o + j * 4 + 1, none⟩ = some va1 ∧ w'.cell? ⟨b, o + j * 4 + 2, none⟩ = some vv1 ∧ w'.cell? ⟨b, o + j * 4 + 3, none⟩ = some (.int .i64 (ga j).off) ∧
            w'.cell? ⟨w3.heap.size, 0, none⟩ = some (.string (ga j).name) ∧ w'.cell? ⟨w3.heap.size, 1, none⟩ = some (.slice x1 (ga j).n k1) ∧ w'.cell? ⟨w3.heap.size, 2, none⟩ = some (.slice x2 (ga j).m q2) ∧ w'.cell? ⟨w3.heap.size, 3, none⟩ = some (.int .i64 (ga j).off)) (go_keep)
          (first | (go_at_call 9; refine HC.mono ?_; rintro e w' ⟨rfl, l⟩; have l' : Below w4.heap.size w4 w' := ⟨l.os, l.tape, l.output, l.size, l.block⟩; have hbl := hBl.out w' l'; obtain ⟨⟨k0, k1, k2, k3⟩, k4, k5, k6, k7⟩ := gg.out w' l'))
        all_goals
          clear HC
          go_wp2
          go_ret
          exact ⟨rfl, hbl⟩
      · have hix : u6 = .int .i64 (-1) := by
          rcases hI.out with ⟨h1, h2⟩ | ⟨k, h1, h2, h3, h4, h5⟩
          · exact h1
          · exact absurd h4 (hno k h3)
        subst hix
        have hq1 : ∀ w, (binOp .eql 28 (.slice none 0 0) (.slice none 0 0)).run Try.prog w = .ok (.bool true) w := fun w => Lib.run_eql_slice_nil w 28 31 none 0 0 0 0 Try.underlying28
        have hq2 : ∀ w, (binOp .eql 29 (.slice none 0 0) (.slice none 0 0)).run Try.prog w = .ok (.bool true) w := fun w => Lib.run_eql_slice_nil w 29 51 none 0 0 0 0 Try.underlying29
        have b4 := b3.alloc (Nat.le_trans s1 (Nat.le_trans s2 s3)) (.cells #[.string ⟨#[]⟩, .slice none 0 0, .slice none 0 0, .int .i64 0] 31)
        clear hI hno
        go_wp2
        go_ret
        exact ⟨rfl, b4⟩
end Go.Proofs.Qxb6602150a
