import Derived.Test.Qxb6601691aBase
import Derived.ArgAppend
namespace Go.Proofs.Qxb6601691a
open Go.RowKit

/-- A change: from, pool, decided. -/
abbrev Chg := Int × Int × Bool

/-- The three cells of a change at place o of block b. -/
def C3 (w : World) (b o : Nat) (c : Chg) : Prop := w.cell? ⟨b, o, none⟩ = some (.int .u64 c.1) ∧ w.cell? ⟨b, o + 1, none⟩ = some (.int .u64 c.2.1) ∧ w.cell? ⟨b, o + 2, none⟩ = some (.bool c.2.2)
def F3 (w : World) (b o : Nat) : Prop := w.frozen? ⟨b, o, none⟩ = false ∧ w.frozen? ⟨b, o + 1, none⟩ = false ∧ w.frozen? ⟨b, o + 2, none⟩ = false

/-- What is known of a slice of changes. -/
def CA (w : World) (a : Option Addr) (n : Nat) (x : Nat → Chg) : Prop :=
  0 < n → ∃ b o, a = some ⟨b, o, none⟩ ∧ ∀ i, i < n → C3 w b (o + i * 3) (x i)

theorem C3.lt {w : World} {b o : Nat} {c : Chg} (h : C3 w b o c) : b < w.heap.size := World.block_lt_of_cell? w _ h.1
theorem C3.below {w w' : World} {b o B : Nat} {c : Chg} (h : C3 w b o c) (hb : Below B w w') (hB : b < B) : C3 w' b o c :=
  ⟨(hb.cell (p := ⟨b, o, none⟩) hB).trans h.1, (hb.cell (p := ⟨b, o + 1, none⟩) hB).trans h.2.1, (hb.cell (p := ⟨b, o + 2, none⟩) hB).trans h.2.2⟩
theorem F3.below {w w' : World} {b o B : Nat} (h : F3 w b o) (hb : Below B w w') (hB : b < B) : F3 w' b o :=
  ⟨(hb.frozen (p := ⟨b, o, none⟩) hB).trans h.1, (hb.frozen (p := ⟨b, o + 1, none⟩) hB).trans h.2.1, (hb.frozen (p := ⟨b, o + 2, none⟩) hB).trans h.2.2⟩

theorem CA.below {w w' : World} {a : Option Addr} {n : Nat} {x : Nat → Chg} (h : CA w a n x) (hb : Below w.heap.size w w') : CA w' a n x := by
  intro hn
  obtain ⟨b, o, ha, hc⟩ := h hn
  exact ⟨b, o, ha, fun i hi => (hc i hi).below hb (hc i hi).lt⟩

theorem cell_set_other {w : World} {b o b' o' : Nat} {v : Value} (h : b = b' → o ≠ o') : (w.setCell ⟨b, o, none⟩ v).cell? ⟨b', o', none⟩ = w.cell? ⟨b', o', none⟩ :=
  World.cell?_setCell_other _ _ _ _ (by intro e; injection e with e1 e2; exact h e1 e2)

/-- A change stored. -/
def put3 (w : World) (b o : Nat) (c : Chg) : World := ((w.setCell ⟨b, o, none⟩ (.int .u64 c.1)).setCell ⟨b, o + 1, none⟩ (.int .u64 c.2.1)).setCell ⟨b, o + 2, none⟩ (.bool c.2.2)

theorem put3_same {w : World} {b o : Nat} {c d : Chg} (h : C3 w b o d) : C3 (put3 w b o c) b o c := by
  obtain ⟨h1, h2, h3⟩ := h
  refine ⟨?_, ?_, ?_⟩
  · unfold put3; rw [cell_set_other (by omega), cell_set_other (by omega)]; exact World.cell?_setCell_same _ _ _ h1
  · unfold put3; rw [cell_set_other (by omega)]; exact World.cell?_setCell_same _ _ _ ((cell_set_other (by omega)).trans h2)
  · unfold put3; exact World.cell?_setCell_same _ _ _ ((cell_set_other (by omega)).trans ((cell_set_other (by omega)).trans h3))

theorem put3_other {w : World} {b o b' o' : Nat} {c d : Chg} (h : C3 w b' o' d) (hne : b = b' → o + 3 ≤ o' ∨ o' + 3 ≤ o) : C3 (put3 w b o c) b' o' d := by
  obtain ⟨h1, h2, h3⟩ := h
  refine ⟨?_, ?_, ?_⟩
  · unfold put3; rw [cell_set_other (by omega), cell_set_other (by omega), cell_set_other (by omega)]; exact h1
  · unfold put3; rw [cell_set_other (by omega), cell_set_other (by omega), cell_set_other (by omega)]; exact h2
  · unfold put3; rw [cell_set_other (by omega), cell_set_other (by omega), cell_set_other (by omega)]; exact h3

theorem put3_frozen {w : World} {b o b' o' : Nat} {c : Chg} (h : F3 w b' o') : F3 (put3 w b o c) b' o' := by
  unfold put3 F3
  simp only [World.frozen?_setCell]
  exact h

theorem put3_below {B : Nat} {w w' : World} {b o : Nat} {c : Chg} (h : Below B w w') (hb : B ≤ b) : Below B w (put3 w' b o c) :=
  ((h.setCell (p := ⟨b, o, none⟩) hb _).setCell (p := ⟨b, o + 1, none⟩) hb _).setCell (p := ⟨b, o + 2, none⟩) hb _

/-- The state of a copy of n changes into the block D. -/
def Cp3 (n : Nat) (x : Nat → Chg) (D : Nat) (w1 wr : World) (k : Nat) : Prop :=
  (∀ j, j < n → (∃ c, C3 wr D (j * 3) c) ∧ F3 wr D (j * 3)) ∧ (∀ j, j < k → C3 wr D (j * 3) (x j)) ∧ Below D w1 wr

theorem cp3_step {n : Nat} {x : Nat → Chg} {D : Nat} {w1 wr : World} {k : Nat} (h : Cp3 n x D w1 wr k) (hk : k < n) : Cp3 n x D w1 (put3 wr D (k * 3) (x k)) (k + 1) := by
  obtain ⟨h1, h2, h3⟩ := h
  obtain ⟨⟨d, hd⟩, -⟩ := h1 k hk
  refine ⟨fun j hj => ⟨?_, put3_frozen (h1 j hj).2⟩, fun j hj => ?_, put3_below h3 (Nat.le_refl _)⟩
  · by_cases e : j = k
    · subst e; exact ⟨_, put3_same hd⟩
    · obtain ⟨c, hc⟩ := (h1 j hj).1
      exact ⟨c, put3_other hc fun _ => by omega⟩
  · by_cases e : j = k
    · subst e; exact put3_same hd
    · exact put3_other (h2 j (by omega)) fun _ => by omega

theorem Cp3.drew {n : Nat} {x : Nat → Chg} {D : Nat} {w1 wr : World} {k : Nat} (h : Cp3 n x D w1 wr k) : Cp3 n x D w1 wr.drew k := ⟨h.1, h.2.1, h.2.2.drew⟩

theorem made3 (n j : Nat) (hj : j < n * 3) : (madeCells #[.int .u64 0, .int .u64 0, .bool false] (n * 3)).toList[j]? = some (if j % 3 = 2 then .bool false else .int .u64 0) := by
  simp only [madeCells, Array.toList_map, Array.toList_range, List.getElem?_map, List.getElem?_range hj, Option.map_some]
  have : j % (#[Value.int IntKind.u64 0, Value.int IntKind.u64 0, Value.bool false] : Array Value).size = j % 3 := rfl
  rw [this]
  have h3 : j % 3 = 0 ∨ j % 3 = 1 ∨ j % 3 = 2 := by omega
  rcases h3 with h | h | h <;> rw [h] <;> rfl

theorem cp3_start (n : Nat) (x : Nat → Chg) (E : TypeId) {w1 w2 : World} (h : w2.ownsRow w1.heap.size E 3 (.slice (some ⟨w1.heap.size, 0, none⟩) n n) n (madeCells #[.int .u64 0, .int .u64 0, .bool false] (n * 3)).toList) (hb : Below w1.heap.size w1 w2) : Cp3 n x w1.heap.size w1 w2 0 := by
  refine ⟨fun j hj => ⟨⟨(0, 0, false), ?_, ?_, ?_⟩, h.frozenAt _, h.frozenAt _, h.frozenAt _⟩, fun j hj => by omega, hb⟩
  · rw [h.cellAt (j * 3) (by omega), made3 n _ (by omega), if_neg (by omega)]
  · rw [h.cellAt (j * 3 + 1) (by omega), made3 n _ (by omega), if_neg (by omega)]
  · rw [h.cellAt (j * 3 + 2) (by omega), made3 n _ (by omega), if_pos (by omega)]

theorem Try.info48 : (Try.prog.info? 48).map (fun i => (i.zero, i.size, i.bytes)) = some (some (.agg #[.int .u64 0, .int .u64 0, .bool false]), 3, 24) := by kernel_rfl
theorem Try.info50 : (Try.prog.info? 50).map (fun i => (i.zero, i.size, i.bytes)) = some (some (.agg #[.int .u64 0, .int .u64 0, .bool false]), 3, 24) := by kernel_rfl
theorem Try.info52 : (Try.prog.info? 52).map (fun i => (i.zero, i.size, i.bytes)) = some (some (.agg #[.int .u64 0, .int .u64 0, .bool false]), 3, 24) := by kernel_rfl

/-- It returned a slice of the n changes x, nil or not as said, in the new world. -/
def ChR (nil : Bool) (n : Nat) (x : Nat → Chg) (w w' : World) (e : Ending) : Prop := ∃ a c, e = .returned (.slice a n c) ∧ a.isNone = nil ∧ (a = none → n = 0) ∧ CA w' a n x ∧ Below w.heap.size w w'
theorem chR {nil : Bool} {n : Nat} {x : Nat → Chg} {w w' : World} (a : Option Addr) (c : Nat) (h1 : a.isNone = nil) (h2 : a = none → n = 0) (h3 : CA w' a n x) (h4 : Below w.heap.size w w') : ChR nil n x w w' (.returned (.slice a n c)) := ⟨a, c, rfl, h1, h2, h3, h4⟩

set_option maxRecDepth 100000 in
set_option maxHeartbeats 1000000 in
theorem cloneChanges (a : Option Addr) (n c : Nat) (hn : n ≤ 1048576) (h0 : a = none → n = 0) (x : Nat → Chg) (w : World) (hz : CA w a n x) :
    Calls Try.prog 10 #[.slice a n c] w fun e w' => ChR a.isNone n x w w' e := by
  cases a with
  | none =>
    have hq : ∀ w, (binOp .eql 22 (.slice none n c) (.slice none 0 0)).run Try.prog w = .ok (.bool true) w := fun w => Lib.run_eql_slice_nil w 22 48 _ n c 0 0 Try.underlying22
    obtain rfl := h0 rfl
    go_enter Try.func10, Try.ntmps10
    go_wp2
    go_ret
    exact chR _ _ rfl (fun _ => rfl) (by intro h; omega) (Below.refl _ _)
  | some ad =>
    obtain ⟨i0, hi, hz1, hz2, hz3⟩ := info_parts Try.info48
    have hq : ∀ w, (binOp .eql 22 (.slice (some ad) n c) (.slice none 0 0)).run Try.prog w = .ok (.bool false) w := fun w => Lib.run_eql_slice_nil w 22 48 _ n c 0 0 Try.underlying22
    go_enter Try.func10, Try.ntmps10
    go_wp2_with (at_make; refine wpList_make_full _ rfl _ _ 22 rfl w.heap.size 48 i0 (.agg #[.int .u64 0, .int .u64 0, .bool false]) 3 Try.underlying22 hi hz1 hz2 .i64 .i64 n n n rfl rfl rfl rfl ?b1 ?b2 ?b3 ?_)
    case b1 => rw [hz3]; omega
    case b2 => unfold maxLen; omega
    case b3 => exact Nat.le_refl _
    intro w2 hown2 hgrow
    have hst := cp3_start n x 48 hown2 ((Below.refl _ _).grown hgrow (Nat.le_refl _) (by simp))
    clear hown2 hgrow hq hi hz1 hz2 hz3
    go_wp2
    go_loopw [4] (fun i wr => ∃ k : Nat, k ≤ n ∧ i = .int .i64 k ∧ Cp3 n x w.heap.size w wr k) (fun i _ => n - (intOf i).toNat)
    case atStart => exact ⟨0, Nat.zero_le _, rfl, hst⟩
    case round =>
      obtain ⟨k, hk, rfl, hcp⟩ := hrel
      by_cases hlt : k < n
      · obtain ⟨b, o, ha, hc⟩ := hz (by omega)
        injection ha with ha
        subst ha
        obtain ⟨g1, g2, g3⟩ := (hc k hlt).below hcp.2.2 (hc k hlt).lt
        obtain ⟨⟨d, d1, d2, d3⟩, f1, f2, f3⟩ := hcp.1 k hlt
        have hcp' := cp3_step hcp hlt
        unfold put3 at hcp'
        clear hc hz hst
        go_wp2
        go_roundw
        case rel => exact ⟨k + 1, by omega, by go_num, hcp'⟩
        case measure => simp [intOf]; omega
      · clear hz hst
        go_wp2
        go_ret
        refine chR _ _ rfl (fun h => by cases h) (fun _ => ⟨w.heap.size, 0, rfl, fun i hi => ?_⟩) hcp.2.2
        rw [Nat.zero_add]
        exact hcp.2.1 i (by omega)
end Go.Proofs.Qxb6601691a
