import Derived.Test.Qxb6602150aAb
import Derived.ProofKit
import Derived.OpenShut
import Derived.ShutString
import Derived.ChangeOld
import Derived.Below
import Derived.Deep.Slices
import Derived.Deep.Strs
namespace Go.Proofs.Qxb6602150a
open Go.ChangeShapes Go.WideShapes Go.ChangeAt Go.RowKit
open Go.Deep (open_slice choose_lt trod_struct3)

theorem cells27 : Try.prog.cellsOf 27 = 4 := by kernel_rfl
theorem cells41 : Try.prog.cellsOf 41 = 3 := by kernel_rfl
theorem cells9 : Try.prog.cellsOf 9 = 1 := by kernel_rfl
theorem cells3 : Try.prog.cellsOf 3 = 1 := by kernel_rfl
theorem cells22 : Try.prog.cellsOf 22 = 1 := by kernel_rfl
theorem cells25 : Try.prog.cellsOf 25 = 1 := by kernel_rfl
theorem bytes27 : Try.prog.bytesOf 27 = 72 := by kernel_rfl
theorem bytes41 : Try.prog.bytesOf 41 = 40 := by kernel_rfl

theorem cell_lt {w : World} {b o : Nat} {v : Value} (h : w.cell? ⟨b, o, none⟩ = some v) : b < w.heap.size := by
  unfold World.cell? at h
  split at h
  · rename_i hb
    exact (Array.getElem?_eq_some_iff.1 hb).1
  · cases h

section
variable {H : Type} {enc : TypeId × Value → H} {W : World} {sp : Nat → Bool} {held : Bool}

theorem wAll {e : TypeId} : ∀ {l : List (DataW H)} {d : DataW H}, d ∈ l → ∀ n ∈ d.weights Try.prog e, n ∈ DataW.weightsAll Try.prog e l
  | x :: r, d, h, n, hn => by
    rw [DataW.weightsAll]
    rcases List.mem_cons.1 h with rfl | h
    · exact List.mem_append_left _ hn
    · exact List.mem_append_right _ (wAll h n hn)

/-- A slice of tokens, opened. -/
theorem open_toks {fuel : Nat} {v : Value} {D : DataW H} {Pl : List MemPlace} (h : DataW.trod enc Try.prog W 0 sp held fuel 25 [v] = some (D, Pl)) (hw : ∀ z ∈ D.weights Try.prog 25, z ≤ reachBytes) :
    ∃ nl m ts, RdT W (Dn W.heap.size) v nl m ts ∧ m ≤ 4398046511104 ∧ ∀ t, t < m → (ts t).k.size ≤ 140737488355328 ∧ (ts t).t.size ≤ 140737488355328 := by
  rcases open_slice Try.underlying25 h with ⟨hcs, -⟩ | ⟨ad, len, cap, m, fu, Df, Plf, hcs, -, hl, hcap, hm, hx, helem⟩
  · simp at hcs
    subst hcs
    exact ⟨true, 0, fun _ => default, .inl ⟨rfl, rfl, rfl⟩, by omega, fun t ht => by omega⟩
  · simp at hcs
    subst hcs
    have hlm : len ≤ m := by rw [hm]; split <;> omega
    rw [cells41] at helem
    simp only [Prod.mk.injEq] at hx
    obtain ⟨rfl, -⟩ := hx
    have hw2 : ∀ i, i < len → ∀ z ∈ (Df i).weights Try.prog 41, z ≤ reachBytes := fun i hi z hz => hw z (by
      simp only [DataW.weights, Try.underlying25]
      exact List.mem_cons_of_mem _ (List.mem_append_left _ (wAll (List.mem_map.2 ⟨i, List.mem_range.2 hi, rfl⟩) z hz)))
    have hlen : len * 40 ≤ reachBytes := by
      have := hw ((len + (m - len)) * 40) (by simp only [DataW.weights, Try.underlying25, bytes41, List.length_map, List.length_range]; exact List.mem_cons_self)
      have h2 : len * 40 ≤ (len + (m - len)) * 40 := Nat.mul_le_mul_right _ (by omega)
      omega
    obtain ⟨ts, hts⟩ := choose_lt (α := Tk) (n := len) (p := fun i c => W.cell? (ad.add (i * 3)) = some (.string c.k) ∧ W.cell? ((ad.add (i * 3)).add 1) = some (.string c.t) ∧ W.cell? ((ad.add (i * 3)).add 2) = some (.int .i64 c.o) ∧ c.k.size ≤ reachBytes ∧ c.t.size ≤ reachBytes) (fun i hi => by
      obtain ⟨cs', h1, h2⟩ := helem i (by omega)
      obtain ⟨-, hlen', hcell⟩ := World.cells?_some h1
      obtain ⟨y0, y1, y2, k, hy, -, t0, t1, t2⟩ := trod_struct3 Try.underlying41 h2
      rw [cells9] at t0 t1
      rw [cells3] at t2
      obtain ⟨n0, e0, f0, -⟩ := DataW.trod_string Try.underlying9 t0
      obtain ⟨n1, e1, f1, -⟩ := DataW.trod_string Try.underlying9 t1
      obtain ⟨n2, e2, -, -⟩ := DataW.trod_int Try.underlying3 t2
      obtain ⟨v0, v1, v2, rfl⟩ : ∃ v0 v1 v2, cs' = [v0, v1, v2] := by
        match cs', hlen' with
        | [v0, v1, v2], _ => exact ⟨v0, v1, v2, rfl⟩
      simp at e0 e1 e2
      subst e0 e1 e2
      have q0 := hcell 0 (by omega)
      have q1 := hcell 1 (by omega)
      have q2 := hcell 2 (by omega)
      simp only [Prod.mk.injEq] at hy
      have hwd := hw2 i hi
      rw [hy.1] at hwd
      subst f0 f1
      refine ⟨⟨n0, n1, n2⟩, ?_, ?_, ?_, ?_, ?_⟩
      · simpa [Addr.add] using q0
      · simpa using q1
      · simpa using q2
      · have := hwd n0.data.toList.length (by simp [DataW.weights, Try.underlying41, DataW.weightsEach])
        rw [Array.length_toList] at this
        exact this
      · have := hwd n1.data.toList.length (by simp [DataW.weights, Try.underlying41, DataW.weightsEach])
        rw [Array.length_toList] at this
        exact this)
    have hr : reachBytes = 140737488351232 := rfl
    refine ⟨false, len, ts, .inr ⟨rfl, ad, cap, rfl, fun i hi => ?_⟩, by omega, fun t ht => ?_⟩
    · obtain ⟨b, o, spot⟩ := ad
      obtain ⟨g0, g1, g2, -, -⟩ := hts i hi
      have hspot : spot = none := by simpa [Addr.add] using World.cell?_spot (hts 0 (by omega)).1
      subst hspot
      rw [add_plain] at g0 g1 g2
      rw [add_plain] at g1 g2
      exact ⟨b, o, rfl, cell_lt g0, g0, g1, g2⟩
    · obtain ⟨-, -, -, g3, g4⟩ := hts t ht
      exact ⟨by omega, by omega⟩

theorem sizeOf_pos (D : DataW H) : 0 < SizeOf.sizeOf D := by cases D <;> simp <;> omega

/-- A struct of four fields. -/
theorem trod_arg {fuel : Nat} {cs : List Value} {x : DataW H × List MemPlace} (h : DataW.trod enc Try.prog W 0 sp held fuel 27 cs = some x) :
    ∃ y0 y1 y2 y3 n, x.1 = .agg [y0.1, y1.1, y2.1, y3.1] ∧ cs.length = 4 ∧ DataW.trod enc Try.prog W 0 sp held n 9 ((cs.drop 0).take 1) = some y0 ∧ DataW.trod enc Try.prog W 0 sp held n 22 ((cs.drop 1).take 1) = some y1 ∧
      DataW.trod enc Try.prog W 0 sp held n 25 ((cs.drop 2).take 1) = some y2 ∧ DataW.trod enc Try.prog W 0 sp held n 3 ((cs.drop 3).take 1) = some y3 := by
  obtain ⟨xs, n, _, rfl, hl, hlen, hf⟩ := DataW.trod_struct Try.underlying27 h
  rw [cells27] at hl
  match xs, hlen with
  | [y0, y1, y2, y3], _ =>
    have f0 : DataW.trod enc Try.prog W 0 sp held n 9 ((cs.drop 0).take (Try.prog.cellsOf 9)) = some y0 := hf 0 _ rfl
    have f1 : DataW.trod enc Try.prog W 0 sp held n 22 ((cs.drop 1).take (Try.prog.cellsOf 22)) = some y1 := hf 1 _ rfl
    have f2 : DataW.trod enc Try.prog W 0 sp held n 25 ((cs.drop 2).take (Try.prog.cellsOf 25)) = some y2 := hf 2 _ rfl
    have f3 : DataW.trod enc Try.prog W 0 sp held n 3 ((cs.drop 3).take (Try.prog.cellsOf 3)) = some y3 := hf 3 _ rfl
    rw [cells9] at f0
    rw [cells22] at f1
    rw [cells25] at f2
    rw [cells3] at f3
    exact ⟨y0, y1, y2, y3, n, rfl, hl, f0, f1, f2, f3⟩

/-- A slice of arguments, opened, as deep as its datum is. -/
theorem open_tree : ∀ (k fuel : Nat) (v : Value) (D : DataW H) (Pl : List MemPlace), DataW.trod enc Try.prog W 0 sp held fuel 22 [v] = some (D, Pl) → SizeOf.sizeOf D ≤ k → (∀ z ∈ D.weights Try.prog 22, z ≤ reachBytes) →
    ∃ nl n ga, RdA W (Dn W.heap.size) k v nl n ga ∧ WtA k n ga
  | 0, fuel, v, D, Pl, h, hk, hw => by have := sizeOf_pos D; omega
  | k + 1, fuel, v, D, Pl, h, hk, hw => by
    rcases open_slice Try.underlying22 h with ⟨hcs, -⟩ | ⟨ad, len, cap, m, fu, Df, Plf, hcs, -, hl, hcap, hm, hx, helem⟩
    · simp at hcs
      subst hcs
      exact ⟨true, 0, fun _ => .z, .inl ⟨rfl, rfl, rfl⟩, by omega, fun t ht => by omega⟩
    · simp at hcs
      subst hcs
      have hlm : len ≤ m := by rw [hm]; split <;> omega
      rw [cells27] at helem
      simp only [Prod.mk.injEq] at hx
      obtain ⟨rfl, -⟩ := hx
      have hw2 : ∀ i, i < len → ∀ z ∈ (Df i).weights Try.prog 27, z ≤ reachBytes := fun i hi z hz => hw z (by
        simp only [DataW.weights, Try.underlying22]
        exact List.mem_cons_of_mem _ (List.mem_append_left _ (wAll (List.mem_map.2 ⟨i, List.mem_range.2 hi, rfl⟩) z hz)))
      have hlen : len * 72 ≤ reachBytes := by
        have := hw ((len + (m - len)) * 72) (by simp only [DataW.weights, Try.underlying22, bytes27, List.length_map, List.length_range]; exact List.mem_cons_self)
        have h2 : len * 72 ≤ (len + (m - len)) * 72 := Nat.mul_le_mul_right _ (by omega)
        omega
      have hsz : ∀ i, i < len → SizeOf.sizeOf (Df i) ≤ k := fun i hi => by
        have h1 := List.sizeOf_lt_of_mem (List.mem_map.2 ⟨i, List.mem_range.2 hi, rfl⟩ : Df i ∈ (List.range len).map Df)
        simp at hk
        omega
      have hr : reachBytes = 140737488351232 := rfl
      obtain ⟨ga, hga⟩ := choose_lt (α := Ag) (n := len) (p := fun i c => ∃ va vv, W.cell? (ad.add (i * 4)) = some (.string c.name) ∧ W.cell? ((ad.add (i * 4)).add 1) = some va ∧ W.cell? ((ad.add (i * 4)).add 2) = some vv ∧ W.cell? ((ad.add (i * 4)).add 3) = some (.int .i64 c.off) ∧
          RdA W (Dn W.heap.size) k va c.an c.n c.gs ∧ RdT W (Dn W.heap.size) vv c.vn c.m c.ts ∧ c.name.size ≤ 140737488355328 ∧ c.m ≤ 4398046511104 ∧ (∀ t, t < c.m → (c.ts t).k.size ≤ 140737488355328 ∧ (c.ts t).t.size ≤ 140737488355328) ∧ WtA k c.n c.gs) (fun i hi => by
        obtain ⟨cs', h1, h2⟩ := helem i (by omega)
        obtain ⟨-, hlen', hcell⟩ := World.cells?_some h1
        obtain ⟨y0, y1, y2, y3, kk, hy, -, t0, t1, t2, t3⟩ := trod_arg h2
        obtain ⟨v0, v1, v2, v3, rfl⟩ : ∃ v0 v1 v2 v3, cs' = [v0, v1, v2, v3] := by
          match cs', hlen' with
          | [v0, v1, v2, v3], _ => exact ⟨v0, v1, v2, v3, rfl⟩
        simp at t0 t1 t2 t3
        have q0 := hcell 0 (by omega)
        have q1 := hcell 1 (by omega)
        have q2 := hcell 2 (by omega)
        have q3 := hcell 3 (by omega)
        have hwd := hw2 i hi
        have hsd := hsz i hi
        simp only at hy
        rw [hy] at hwd hsd
        obtain ⟨n0, e0, f0, -⟩ := DataW.trod_string Try.underlying9 t0
        obtain ⟨n3, e3, -, -⟩ := DataW.trod_int Try.underlying3 t3
        simp at e0 e3
        subst e0 e3 f0
        obtain ⟨D1, P1⟩ := y1
        obtain ⟨D2, P2⟩ := y2
        have hs1 : SizeOf.sizeOf D1 ≤ k := by simp at hsd; omega
        obtain ⟨nl, n, gs, hA, hWt⟩ := open_tree k kk v1 D1 P1 t1 hs1 (fun z hz => hwd z (by simp [DataW.weights, Try.underlying27, DataW.weightsEach, hz]))
        obtain ⟨vn, mm, ts, hT, hmm, htt⟩ := open_toks t2 (fun z hz => hwd z (by simp [DataW.weights, Try.underlying27, DataW.weightsEach, hz]))
        refine ⟨.mk n0 nl n gs vn mm ts n3, v1, v2, ?_, ?_, ?_, ?_, hA, hT, ?_, hmm, htt, hWt⟩
        · simpa [Addr.add, Ag.name] using q0
        · simpa using q1
        · simpa using q2
        · simpa [Ag.off] using q3
        · have := hwd n0.data.toList.length (by simp [DataW.weights, Try.underlying27, DataW.weightsEach])
          rw [Array.length_toList] at this
          have e : n0.size = n0.data.size := rfl
          show n0.size ≤ _
          omega)
      refine ⟨false, len, ga, .inr ⟨rfl, ad, cap, rfl, fun i hi => ?_⟩, by omega, fun i hi => ?_⟩
      · obtain ⟨b, o, spot⟩ := ad
        obtain ⟨va, vv, g0, g1, g2, g3, g4, g5, -⟩ := hga i hi
        have hspot : spot = none := by
          obtain ⟨_, _, g, _⟩ := hga 0 (by omega)
          simpa [Addr.add] using World.cell?_spot g
        subst hspot
        rw [add_plain] at g0 g1 g2 g3
        rw [add_plain] at g1 g2 g3
        exact ⟨b, o, va, vv, rfl, cell_lt g0, g0, g1, g2, g3, g4, g5⟩
      · obtain ⟨va, vv, -, -, -, -, -, -, g6, g7, g8, g9⟩ := hga i hi
        exact ⟨g6, g7, g8, g9⟩
end
end Go.Proofs.Qxb6602150a
