import Derived.Test.Qxb6602150aCl
import Derived.Deep.DeepCutAuto
import Derived.Deep.CutBlock
namespace Go.Proofs.Qxb6602150a
open Go.RowKit

/-- What lookup answers. -/
def LkR (w w' : World) (S : Nat → Prop) (d n : Nat) (ga : Nat → Ag) (x : ByteArray) (e : Ending) : Prop :=
  Below w.heap.size w w' ∧ ((∃ j va vv, j < n ∧ (ga j).name.toList = x.toList ∧ (∀ i, i < j → (ga i).name.toList ≠ x.toList) ∧ e = .returned (.tuple #[.agg #[.string (ga j).name, va, vv, .int .i64 (ga j).off], .bool true]) ∧ El w S d va vv (ga j)) ∨
      ((∀ i, i < n → (ga i).name.toList ≠ x.toList) ∧ e = .returned (.tuple #[.agg #[.string ⟨#[]⟩, .slice none 0 0, .slice none 0 0, .int .i64 0], .bool false])))

theorem new4 (w : World) (z0 z1 z2 z3 : Value) (t : TypeId) : (∀ z, z < 4 → ((w.alloc (.cells #[z0, z1, z2, z3] t)).cell? ⟨w.heap.size, z, none⟩).isSome = true) ∧ (∀ z, (w.alloc (.cells #[z0, z1, z2, z3] t)).frozen? ⟨w.heap.size, z, none⟩ = false) := by
  have hA := Go.Deep.blk_alloc_new w (.cells #[z0, z1, z2, z3] t)
  refine ⟨fun x hx => ?_, fun x => by unfold World.frozen?; rw [hA]; simp⟩
  simp only [World.cell?, hA]
  match x, hx with
  | 0, _ => rfl
  | 1, _ => rfl
  | 2, _ => rfl
  | 3, _ => rfl

set_option maxRecDepth 100000 in
set_option maxHeartbeats 4000000 in
theorem lookup13 (w : World) (d : Nat) (v : Value) (nl : Bool) (n : Nat) (ga : Nat → Ag) (x : ByteArray) (S : Nat → Prop) (hS : ∀ b, S b → b < w.heap.size) (hA : RdA w S (d + 1) v nl n ga) (hn : n ≤ 1048576) :
    Calls Try.prog 13 #[v, .string x] w fun e w' => LkR w w' S d n ga x e := by
  have hform : ∃ y c, v = .slice y n c := by
    rcases hA with ⟨_, h, h2⟩ | ⟨_, ad, c, h, _⟩
    · rw [h]; exact ⟨_, _, h2⟩
    · exact ⟨_, _, h⟩
  obtain ⟨y, c, rfl⟩ := hform
  go_enter Try.func13, Try.ntmps13
  go_wp2_with fail
  go_loopw [10] (fun i wr => ∃ j : Nat, i = .int .i64 j ∧ j ≤ n ∧ Below w.heap.size w wr ∧ (∀ i, i < j → (ga i).name.toList ≠ x.toList) ∧ (∀ z, z < 4 → (wr.cell? ⟨w.heap.size, z, none⟩).isSome = true) ∧ (∀ z, wr.frozen? ⟨w.heap.size, z, none⟩ = false) ∧ w.heap.size < wr.heap.size) (fun i _ => n - (intOf i).toNat)
  case atStart => exact ⟨0, rfl, Nat.zero_le _, (Below.refl _ _).alloc (Nat.le_refl _) _, fun i hi => by omega, (new4 w _ _ _ _ 46).1, (new4 w _ _ _ _ 46).2, by simp⟩
  case round =>
    obtain ⟨j, rfl, hj, hb, hno, hs, hf, hz⟩ := hrel
    by_cases hlt : j < n
    · have hno : Hid _ := hno
      rcases hA with ⟨-, rfl, -⟩ | ⟨-, ad, c', h3, h4⟩
      · omega
      · injection h3 with h3 h5 h6
        subst h3
        obtain ⟨b, o, va, vv, rfl, g0, g1, g2, g3, g4, g5, g6⟩ := h4 j hlt
        have hq := fun z => hb.cell (p := ⟨b, z, none⟩) (hS b g0)
        replace g1 := (hq _).trans g1
        replace g2 := (hq _).trans g2
        replace g3 := (hq _).trans g3
        replace g4 := (hq _).trans g4
        have i1 : (j : Int) < n := by omega
        clear hq h4
        have hE0 : Hid (El w S d va vv (ga j)) := ⟨g5, g6⟩
        obtain ⟨x1, k1, rfl, -⟩ : ∃ x c, va = .slice x (ga j).n c ∧ True := by
          cases d with
          | zero => exact g5.elim
          | succ d =>
            rcases g5 with ⟨_, h, h'⟩ | ⟨_, ad', c', h, _⟩
            · rw [h]; exact ⟨_, _, h', trivial⟩
            · exact ⟨_, _, h, trivial⟩
        obtain ⟨x2, k2, rfl, -⟩ : ∃ x c, vv = .slice x (ga j).m c ∧ True := by
          rcases g6 with ⟨_, h, h'⟩ | ⟨_, ad', c', h, _⟩
          · rw [h]; exact ⟨_, _, h', trivial⟩
          · exact ⟨_, _, h, trivial⟩
        have hal : ∀ (ob : Obj) z, (wr.alloc ob).cell? ⟨w.heap.size, z, none⟩ = wr.cell? ⟨w.heap.size, z, none⟩ := fun ob z => World.cell?_of_block (a := ⟨w.heap.size, z, none⟩) (Go.Deep.blk_alloc_lt _ _ _ hz)
        have hfl : ∀ (ob : Obj) z, (wr.alloc ob).frozen? ⟨w.heap.size, z, none⟩ = false := fun ob z => (World.frozen?_of_block (w := wr) (a := ⟨w.heap.size, z, none⟩) (Go.Deep.blk_alloc_lt _ _ _ hz)).trans (hf z)
        obtain ⟨u0, s0⟩ := Option.isSome_iff_exists.1 (hs 0 (by omega))
        obtain ⟨u1, s1⟩ := Option.isSome_iff_exists.1 (hs 1 (by omega))
        obtain ⟨u2, s2⟩ := Option.isSome_iff_exists.1 (hs 2 (by omega))
        obtain ⟨u3, s3⟩ := Option.isSome_iff_exists.1 (hs 3 (by omega))
        by_cases he : (ga j).name.toList = x.toList
        · have hd : ((ga j).name.toList == x.toList) = true := by simp [he]
          have he : Hid _ := he
          have hg := get4 (v0 := .string (ga j).name) (v1 := .slice x1 (ga j).n k1) (v2 := .slice x2 (ga j).m k2) (v3 := .int .i64 (ga j).off) hs
          have hsz : w.heap.size < (set4 wr w.heap.size 0 (.string (ga j).name) (.slice x1 (ga j).n k1) (.slice x2 (ga j).m k2) (.int .i64 (ga j).off)).heap.size := by rw [size_set4]; exact hz
          have qa := fun z => World.cell?_of_block (a := ⟨w.heap.size, z, none⟩) (Go.Deep.blk_alloc_lt (set4 wr w.heap.size 0 (.string (ga j).name) (.slice x1 (ga j).n k1) (.slice x2 (ga j).m k2) (.int .i64 (ga j).off)) (.cells #[.string (ga j).name, .slice x1 (ga j).n k1, .slice x2 (ga j).m k2, .int .i64 (ga j).off] 46) _ hsz)
          have hb2 := (below_set4 (o := 0) hb (Nat.le_refl w.heap.size) (.string (ga j).name) (.slice x1 (ga j).n k1) (.slice x2 (ga j).m k2) (.int .i64 (ga j).off)).alloc (Nat.le_of_lt hsz) (.cells #[.string (ga j).name, .slice x1 (ga j).n k1, .slice x2 (ga j).m k2, .int .i64 (ga j).off] 46)
          have hg2 : ((set4 wr w.heap.size 0 (.string (ga j).name) (.slice x1 (ga j).n k1) (.slice x2 (ga j).m k2) (.int .i64 (ga j).off)).alloc (.cells #[.string (ga j).name, .slice x1 (ga j).n k1, .slice x2 (ga j).m k2, .int .i64 (ga j).off] 46)).cell? ⟨w.heap.size, 0, none⟩ = some (.string (ga j).name) ∧ ((set4 wr w.heap.size 0 (.string (ga j).name) (.slice x1 (ga j).n k1) (.slice x2 (ga j).m k2) (.int .i64 (ga j).off)).alloc (.cells #[.string (ga j).name, .slice x1 (ga j).n k1, .slice x2 (ga j).m k2, .int .i64 (ga j).off] 46)).cell? ⟨w.heap.size, 1, none⟩ = some (.slice x1 (ga j).n k1) ∧ ((set4 wr w.heap.size 0 (.string (ga j).name) (.slice x1 (ga j).n k1) (.slice x2 (ga j).m k2) (.int .i64 (ga j).off)).alloc (.cells #[.string (ga j).name, .slice x1 (ga j).n k1, .slice x2 (ga j).m k2, .int .i64 (ga j).off] 46)).cell? ⟨w.heap.size, 2, none⟩ = some (.slice x2 (ga j).m k2) ∧ ((set4 wr w.heap.size 0 (.string (ga j).name) (.slice x1 (ga j).n k1) (.slice x2 (ga j).m k2) (.int .i64 (ga j).off)).alloc (.cells #[.string (ga j).name, .slice x1 (ga j).n k1, .slice x2 (ga j).m k2, .int .i64 (ga j).off] 46)).cell? ⟨w.heap.size, 3, none⟩ = some (.int .i64 (ga j).off) := ⟨(qa _).trans hg.1, (qa _).trans hg.2.1, (qa _).trans hg.2.2.1, (qa _).trans hg.2.2.2⟩
          have hg2 : Hid _ := hg2
          clear hs hg qa hsz
          go_wp2
          refine (?_ : bodyPost _ _ _ _ _ ((set4 wr w.heap.size 0 (.string (ga j).name) (.slice x1 (ga j).n k1) (.slice x2 (ga j).m k2) (.int .i64 (ga j).off)).alloc (.cells #[.string (ga j).name, .slice x1 (ga j).n k1, .slice x2 (ga j).m k2, .int .i64 (ga j).off] 46)))
          generalize (set4 wr w.heap.size 0 (.string (ga j).name) (.slice x1 (ga j).n k1) (.slice x2 (ga j).m k2) (.int .i64 (ga j).off)).alloc (.cells #[.string (ga j).name, .slice x1 (ga j).n k1, .slice x2 (ga j).m k2, .int .i64 (ga j).off] 46) = w9 at hg2 hb2 ⊢
          have hg := hg2.out
          obtain ⟨q0, q1, q2, q3⟩ := hg
          refine bodyPost_ret (v := .tuple #[.agg #[.string (ga j).name, .slice x1 (ga j).n k1, .slice x2 (ga j).m k2, .int .i64 (ga j).off], .bool true]) (by simp [results, Try.results13, go_sem, q0, q1, q2, q3]) rfl ⟨hb2, .inl ⟨j, _, _, hlt, he.out, hno.out, rfl, hE0.out⟩⟩
        · have hd : ((ga j).name.toList == x.toList) = false := by simpa using he
          have he : Hid _ := he
          have hs2 : Hid (∀ z, z < 4 → ((wr.alloc (.cells #[.string (ga j).name, .slice x1 (ga j).n k1, .slice x2 (ga j).m k2, .int .i64 (ga j).off] 46)).cell? ⟨w.heap.size, z, none⟩).isSome = true) := fun z hz => by rw [hal]; exact hs z hz
          have hb2 := hb.alloc (Nat.le_of_lt hz) (.cells #[.string (ga j).name, .slice x1 (ga j).n k1, .slice x2 (ga j).m k2, .int .i64 (ga j).off] 46)
          go_wp2
          refine ⟨⟨j + 1, by go_num, by omega, hb2, fun i hi => ?_, hs2.out, fun z => hfl _ z, by simp; omega⟩, by simp [intOf]; omega⟩
          by_cases e : i = j
          · rw [e]; exact he.out
          · exact hno.out i (by omega)
    · have i1 : decide ((j : Int) < n) = false := by simp; omega
      have hno : Hid (∀ i, i < n → (ga i).name.toList ≠ x.toList) := fun i hi => hno i (by omega)
      have hg := get4 (v0 := .string ⟨#[]⟩) (v1 := .slice none 0 0) (v2 := .slice none 0 0) (v3 := .int .i64 0) hs
      have hb2 := below_set4 (o := 0) hb (Nat.le_refl w.heap.size) (.string ⟨#[]⟩) (.slice none 0 0) (.slice none 0 0) (.int .i64 0)
      obtain ⟨u0, s0⟩ := Option.isSome_iff_exists.1 (hs 0 (by omega))
      obtain ⟨u1, s1⟩ := Option.isSome_iff_exists.1 (hs 1 (by omega))
      obtain ⟨u2, s2⟩ := Option.isSome_iff_exists.1 (hs 2 (by omega))
      obtain ⟨u3, s3⟩ := Option.isSome_iff_exists.1 (hs 3 (by omega))
      clear hs hA
      go_wp2
      refine (?_ : bodyPost _ _ _ _ _ (set4 wr w.heap.size 0 (.string ⟨#[]⟩) (.slice none 0 0) (.slice none 0 0) (.int .i64 0)))
      generalize set4 wr w.heap.size 0 (.string ⟨#[]⟩) (.slice none 0 0) (.slice none 0 0) (.int .i64 0) = w9 at hg hb2 ⊢
      obtain ⟨q0, q1, q2, q3⟩ := hg
      refine bodyPost_ret (v := .tuple #[.agg #[.string ⟨#[]⟩, .slice none 0 0, .slice none 0 0, .int .i64 0], .bool false]) (by simp [results, Try.results13, go_sem, q0, q1, q2, q3]) rfl ⟨hb2, .inr ⟨hno.out, rfl⟩⟩
end Go.Proofs.Qxb6602150a
