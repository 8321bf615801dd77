import Derived.Test.Qxb6602150aCll
import Derived.Test.Qxb6602150aLk
namespace Go.Proofs.Qxb6602150a
open Go.RowKit

/-- What ZZLookup answers. -/
def ZR (w w' : World) (d n : Nat) (ga : Nat → Ag) (x : ByteArray) (e : Ending) : Prop :=
  Below w.heap.size w w' ∧ ((∃ j va vv, j < n ∧ (ga j).name.toList = x.toList ∧ (∀ i, i < j → (ga i).name.toList ≠ x.toList) ∧ e = .returned (.tuple #[.agg #[.string (ga j).name, va, vv, .int .i64 (ga j).off], .bool true]) ∧ El w' (Bt w.heap.size w'.heap.size) d va vv (ga j)) ∨
      ((∀ i, i < n → (ga i).name.toList ≠ x.toList) ∧ e = .returned (.tuple #[.agg #[.string ⟨#[]⟩, .slice none 0 0, .slice none 0 0, .int .i64 0], .bool false])))

/-- The zero argument. -/
def ag0 (ga : Nat → Ag) : Ag := .mk ⟨#[]⟩ true 0 ga true 0 (fun _ => default) 0

/-- The result's cell, kept. -/
theorem res_keep {w wr w' : World} {N : Nat} (hs : ∀ z, z < 4 → (wr.cell? ⟨N, z, none⟩).isSome = true) (hf : ∀ z, wr.frozen? ⟨N, z, none⟩ = false) (e : w'.heap[N]? = wr.heap[N]?) (_ : w = w) : (∀ z, z < 4 → (w'.cell? ⟨N, z, none⟩).isSome = true) ∧ ∀ z, w'.frozen? ⟨N, z, none⟩ = false :=
  ⟨fun z hz => by rw [World.cell?_of_block (a := ⟨N, z, none⟩) e]; exact hs z hz, fun z => by rw [World.frozen?_of_block (w := wr) e]; exact hf z⟩

set_option maxRecDepth 100000 in
set_option maxHeartbeats 8000000 in
theorem zz7 (w : World) (d : Nat) (v : Value) (nl : Bool) (n : Nat) (ga : Nat → Ag) (x : ByteArray) (hA : RdA w (Dn w.heap.size) (d + 1) v nl n ga) (hB : BdA (d + 1) n ga) :
    Calls Try.prog 7 #[v, .string x] w fun e w' => ZR w w' d n ga x e := by
  obtain ⟨w1, hw1⟩ : ∃ w1, w1 = w.alloc (.cells #[.string ⟨#[]⟩, .slice none 0 0, .slice none 0 0, .int .i64 0] 31) := ⟨_, rfl⟩
  have hN := new4 w (.string ⟨#[]⟩) (.slice none 0 0) (.slice none 0 0) (.int .i64 0) 31
  have b1 : Below w.heap.size w w1 := by rw [hw1]; exact (Below.refl _ _).alloc (Nat.le_refl _) _
  have z1 : w1.heap.size = w.heap.size + 1 := by rw [hw1]; simp
  rw [← hw1] at hN
  have H14 := (cl14_all (d + 1)).1 w1 v nl n ga (RdA.frame (w := w) (S := Dn w.heap.size) (fun b hb => ⟨b1.block b hb, Nat.lt_of_lt_of_le hb b1.size⟩) hA) hB
  have z1 : Hid (w1.heap.size = w.heap.size + 1) := z1
  rw [hw1] at H14
  clear hA
  go_enter Try.func7, Try.ntmps7
  go_wp2_with fail
  refine H14.mono ?_
  rw [← hw1]
  clear H14 hw1
  rintro e w2 ⟨v', rfl, hv', l2⟩
  obtain ⟨y, c, rfl, -⟩ := hv'.form
  have H13 := lookup13 w2 d _ nl n ga x (Bt w1.heap.size w2.heap.size) (fun b hb => hb.2) hv' hB.1
  have k2 := res_keep (w := w) hN.1 hN.2 (l2.block w.heap.size (by have := z1.out; omega)) rfl
  have zz2 : Hid (w1.heap.size ≤ w2.heap.size) := l2.size
  have b2 := b1.trans (l2.mono (by have := z1.out; omega))
  clear hv'
  go_wp2_with fail
  refine H13.mono ?_
  rintro e w3 ⟨l3, hcase⟩
  have k3 := res_keep (w := w) k2.1 k2.2 (l3.block w.heap.size (by have := z1.out; have := zz2.out; omega)) rfl
  have zz3 : Hid (w2.heap.size ≤ w3.heap.size) := l3.size
  have b3 := b2.trans (l3.mono (by have := z1.out; have := zz2.out; omega))
  clear H13 k2 hN b1 b2
  rcases hcase with ⟨j, va, vv, hj, hm1, hm2, rfl, hE⟩ | ⟨hno, rfl⟩
  · have hm : Hid (j < n ∧ (ga j).name.toList = x.toList ∧ ∀ i, i < j → (ga i).name.toList ≠ x.toList) := ⟨hj, hm1, hm2⟩
    obtain ⟨x1, k1, rfl, -⟩ := hE.1.form
    obtain ⟨x2, q2, rfl, -⟩ := hE.2.form
    obtain ⟨w4, hw4⟩ : ∃ w4, w4 = w3.alloc (.cells #[.string (ga j).name, .slice x1 (ga j).n k1, .slice x2 (ga j).m q2, .int .i64 (ga j).off] 46) := ⟨_, rfl⟩
    have l4 : Below w3.heap.size w3 w4 := by rw [hw4]; exact (Below.refl _ _).alloc (Nat.le_refl _) _
    have H15 := (cl19_all d).2 w4 (ga j) _ _ (hE.frame fun b hb => ⟨(l4.block b (by have := zz3.out; have := hb.2; omega)).trans (l3.block b hb.2), by have := zz3.out; have := hb.2; have := l4.size; show b < w4.heap.size; omega⟩) (hB.2 j hj).1 (hB.2 j hj).2
    have k4 := res_keep (w := w) k3.1 k3.2 (l4.block w.heap.size (by have := z1.out; have := zz2.out; have := zz3.out; omega)) rfl
    have zz4 : Hid (w3.heap.size ≤ w4.heap.size) := l4.size
    have b4 := b3.trans (l4.mono (by have := z1.out; have := zz2.out; have := zz3.out; omega))
    rw [hw4] at H15
    clear k3 hE l3 l4 hj hm1 hm2
    go_wp2_with fail
    refine H15.mono ?_
    rw [← hw4]
    clear H15 hw4
    rintro e w5 ⟨va', vv', rfl, hE5, l5⟩
    obtain ⟨x3, k3, rfl, -⟩ := hE5.1.form
    obtain ⟨x4, q4, rfl, -⟩ := hE5.2.form
    have k5 := res_keep (w := w) k4.1 k4.2 (l5.block w.heap.size (by have := z1.out; have := zz2.out; have := zz3.out; have := zz4.out; omega)) rfl
    have b5 := b4.trans (l5.mono (by have := z1.out; have := zz2.out; have := zz3.out; have := zz4.out; omega))
    have hfin : Hid (El (set4 w5 w.heap.size 0 (.string (ga j).name) (.slice x3 (ga j).n k3) (.slice x4 (ga j).m q4) (.int .i64 (ga j).off)) (Bt w.heap.size (set4 w5 w.heap.size 0 (.string (ga j).name) (.slice x3 (ga j).n k3) (.slice x4 (ga j).m q4) (.int .i64 (ga j).off)).heap.size) d (.slice x3 (ga j).n k3) (.slice x4 (ga j).m q4) (ga j)) :=
      hE5.frame fun b hb => ⟨heap_set4 (by have := hb.1; have := z1.out; have := zz2.out; have := zz3.out; have := zz4.out; omega), by rw [size_set4]; exact ⟨by have := hb.1; have := z1.out; have := zz2.out; have := zz3.out; have := zz4.out; omega, hb.2⟩⟩
    have hb5 := below_set4 (o := 0) b5 (Nat.le_refl w.heap.size) (.string (ga j).name) (.slice x3 (ga j).n k3) (.slice x4 (ga j).m q4) (.int .i64 (ga j).off)
    have hg := get4 (v0 := .string (ga j).name) (v1 := .slice x3 (ga j).n k3) (v2 := .slice x4 (ga j).m q4) (v3 := .int .i64 (ga j).off) k5.1
    obtain ⟨u0, s0⟩ := Option.isSome_iff_exists.1 (k5.1 0 (by omega))
    obtain ⟨u1, s1⟩ := Option.isSome_iff_exists.1 (k5.1 1 (by omega))
    obtain ⟨u2, s2⟩ := Option.isSome_iff_exists.1 (k5.1 2 (by omega))
    obtain ⟨u3, s3⟩ := Option.isSome_iff_exists.1 (k5.1 3 (by omega))
    have kf := k5.2
    clear k5 k4 hE5 l5
    go_wp2
    refine (?_ : bodyPost _ _ _ _ _ (set4 w5 w.heap.size 0 (.string (ga j).name) (.slice x3 (ga j).n k3) (.slice x4 (ga j).m q4) (.int .i64 (ga j).off)))
    generalize set4 w5 w.heap.size 0 (.string (ga j).name) (.slice x3 (ga j).n k3) (.slice x4 (ga j).m q4) (.int .i64 (ga j).off) = w9 at hfin hb5 hg ⊢
    obtain ⟨r0, r1, r2, r3⟩ := hg
    refine bodyPost_ret (v := .tuple #[.agg #[.string (ga j).name, .slice x3 (ga j).n k3, .slice x4 (ga j).m q4, .int .i64 (ga j).off], .bool true]) (by simp [results, Try.results7, go_sem, r0, r1, r2, r3]) rfl ⟨hb5, .inl ⟨j, _, _, hm.out.1, hm.out.2.1, hm.out.2.2, rfl, hfin.out⟩⟩
  · have hno : Hid _ := hno
    obtain ⟨w4, hw4⟩ : ∃ w4, w4 = w3.alloc (.cells #[.string ⟨#[]⟩, .slice none 0 0, .slice none 0 0, .int .i64 0] 46) := ⟨_, rfl⟩
    have l4 : Below w3.heap.size w3 w4 := by rw [hw4]; exact (Below.refl _ _).alloc (Nat.le_refl _) _
    have H15 := (cl19_all 1).2 w4 (ag0 ga) (.slice none 0 0) (.slice none 0 0) ⟨.inl ⟨rfl, rfl, rfl⟩, .inl ⟨rfl, rfl, rfl⟩⟩ ⟨Nat.zero_le _, fun i hi => by exact absurd hi (Nat.not_lt_zero i)⟩ (Nat.zero_le _)
    have k4 := res_keep (w := w) k3.1 k3.2 (l4.block w.heap.size (by have := z1.out; have := zz2.out; have := zz3.out; omega)) rfl
    have zz4 : Hid (w3.heap.size ≤ w4.heap.size) := l4.size
    have b4 := b3.trans (l4.mono (by have := z1.out; have := zz2.out; have := zz3.out; omega))
    change Calls Try.prog 15 #[.agg #[.string ⟨#[]⟩, .slice none 0 0, .slice none 0 0, .int .i64 0]] w4 _ at H15
    rw [hw4] at H15
    clear k3 l3 l4
    go_wp2_with fail
    refine H15.mono ?_
    rw [← hw4]
    clear H15 hw4
    rintro e w5 ⟨va', vv', he, hE5, l5⟩
    have hva : va' = .slice none 0 0 := by
      rcases hE5.1 with ⟨_, _, h⟩ | ⟨h, _⟩
      · exact h
      · exact absurd h (by simp [ag0, Ag.an])
    have hvv : vv' = .slice none 0 0 := by
      rcases hE5.2 with ⟨_, _, h⟩ | ⟨h, _⟩
      · exact h
      · exact absurd h (by simp [ag0, Ag.vn])
    subst hva hvv
    change e = .returned (.agg #[.string ⟨#[]⟩, .slice none 0 0, .slice none 0 0, .int .i64 0]) at he
    subst he
    have k5 := res_keep (w := w) k4.1 k4.2 (l5.block w.heap.size (by have := z1.out; have := zz2.out; have := zz3.out; have := zz4.out; omega)) rfl
    have b5 := b4.trans (l5.mono (by have := z1.out; have := zz2.out; have := zz3.out; have := zz4.out; omega))
    have hb5 := below_set4 (o := 0) b5 (Nat.le_refl w.heap.size) (.string ⟨#[]⟩) (.slice none 0 0) (.slice none 0 0) (.int .i64 0)
    have hg := get4 (v0 := .string ⟨#[]⟩) (v1 := .slice none 0 0) (v2 := .slice none 0 0) (v3 := .int .i64 0) k5.1
    obtain ⟨u0, s0⟩ := Option.isSome_iff_exists.1 (k5.1 0 (by omega))
    obtain ⟨u1, s1⟩ := Option.isSome_iff_exists.1 (k5.1 1 (by omega))
    obtain ⟨u2, s2⟩ := Option.isSome_iff_exists.1 (k5.1 2 (by omega))
    obtain ⟨u3, s3⟩ := Option.isSome_iff_exists.1 (k5.1 3 (by omega))
    have kf := k5.2
    clear k5 k4 hE5 l5
    go_wp2
    refine (?_ : bodyPost _ _ _ _ _ (set4 w5 w.heap.size 0 (.string ⟨#[]⟩) (.slice none 0 0) (.slice none 0 0) (.int .i64 0)))
    generalize set4 w5 w.heap.size 0 (.string ⟨#[]⟩) (.slice none 0 0) (.slice none 0 0) (.int .i64 0) = w9 at hb5 hg ⊢
    obtain ⟨r0, r1, r2, r3⟩ := hg
    refine bodyPost_ret (v := .tuple #[.agg #[.string ⟨#[]⟩, .slice none 0 0, .slice none 0 0, .int .i64 0], .bool false]) (by simp [results, Try.results7, go_sem, r0, r1, r2, r3]) rfl ⟨hb5, .inr ⟨hno.out, rfl⟩⟩
end Go.Proofs.Qxb6602150a
