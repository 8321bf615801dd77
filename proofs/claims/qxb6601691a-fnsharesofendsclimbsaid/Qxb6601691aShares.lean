import Derived.Test.Qxb6601691aBase
namespace Go.Proofs.Qxb6601691a
open Go.RowKit

/-! ### Plain -/
/-- start and the first k counts together. -/
def En (s : Int) (z : Nat → Int) : Nat → Int
  | 0 => s
  | k + 1 => En s z k + z k
/-- The shares of the first k counts. -/
def sh (s : Int) (z od : Nat → Int) : Nat → List (Int × Int)
  | 0 => []
  | k + 1 => if z k = 0 then sh s z od k else sh s z od k ++ [(od k, En s z (k + 1))]
def shCells (l : List (Int × Int)) : List Value := l.flatMap fun p => [.int .i64 p.1, .int .u64 p.2]

theorem shCells_length (l : List (Int × Int)) : (shCells l).length = l.length * 2 := by
  induction l with
  | nil => rfl
  | cons p l ih => show ([_, _] ++ shCells l).length = _; simp [ih]; omega

theorem shCells_append (l m : List (Int × Int)) : shCells (l ++ m) = shCells l ++ shCells m := by simp [shCells]

theorem shCells_get : ∀ (l : List (Int × Int)) (j : Nat) (p : Int × Int), l[j]? = some p → (shCells l)[j * 2]? = some (.int .i64 p.1) ∧ (shCells l)[j * 2 + 1]? = some (.int .u64 p.2)
  | [], j, p, h => by simp at h
  | q :: l, 0, p, h => by
    simp at h
    subst h
    exact ⟨rfl, rfl⟩
  | q :: l, j + 1, p, h => by
    have ih := shCells_get l j p (by simpa using h)
    have e : shCells (q :: l) = .int .i64 q.1 :: .int .u64 q.2 :: shCells l := rfl
    rw [e, show (j + 1) * 2 = j * 2 + 1 + 1 by omega, show j * 2 + 1 + 1 + 1 = (j * 2 + 1) + 1 + 1 by omega]
    simpa using ih

theorem sh_le (s : Int) (z od : Nat → Int) (k : Nat) : (sh s z od k).length ≤ k := by
  induction k with
  | zero => simp [sh]
  | succ k ih =>
    rw [sh]
    split
    · omega
    · rw [List.length_append]; simp; omega

theorem En_le (s : Int) (z : Nat → Int) (n : Nat) (hz : ∀ k, k < n → 0 ≤ z k) : ∀ k, k ≤ n → s ≤ En s z k := by
  intro k
  induction k with
  | zero => intro _; exact Int.le_refl _
  | succ k ih => intro h; have := ih (by omega); have := hz k h; rw [En]; omega

/-- The ends climb from above s, stay at or below En k, and the last is En k. -/
theorem sh_ends (s : Int) (z od : Nat → Int) (n : Nat) (hz : ∀ k, k < n → 0 ≤ z k) : ∀ k, k ≤ n →
    (∀ (j : Nat) (p : Int × Int), (sh s z od k)[j]? = some p → s < p.2 ∧ p.2 ≤ En s z k) ∧
    (∀ (j : Nat) (p q : Int × Int), (sh s z od k)[j]? = some p → (sh s z od k)[j + 1]? = some q → p.2 < q.2) ∧
    (∀ p : Int × Int, (sh s z od k)[(sh s z od k).length - 1]? = some p → p.2 = En s z k) := by
  intro k
  induction k with
  | zero => intro _; simp [sh]
  | succ k ih =>
    intro hk
    obtain ⟨h1, h2, h3⟩ := ih (by omega)
    have hzk := hz k hk
    have hE : En s z (k + 1) = En s z k + z k := rfl
    by_cases e : z k = 0
    · rw [sh, if_pos e, hE, e, Int.add_zero]; exact ⟨h1, h2, h3⟩
    · have hle := En_le s z n hz k (by omega)
      rw [sh, if_neg e]
      have one : ∀ (j : Nat) (p : Int × Int), (sh s z od k ++ [(od k, En s z (k + 1))])[j]? = some p → ((sh s z od k)[j]? = some p) ∨ (j = (sh s z od k).length ∧ p = (od k, En s z (k + 1))) := by
        intro j p hj
        rw [List.getElem?_append] at hj
        split at hj
        · exact .inl hj
        · rename_i hge
          have : j - (sh s z od k).length = 0 := by
            have := (List.getElem?_eq_some_iff.1 hj).1
            simp at this
            omega
          rw [this] at hj
          simp at hj
          exact .inr ⟨by omega, hj.symm⟩
      refine ⟨fun j p hj => ?_, fun j p q hp hq => ?_, fun p hp => ?_⟩
      · rcases one j p hj with h | ⟨_, rfl⟩
        · have := h1 j p h; omega
        · show s < En s z (k + 1) ∧ En s z (k + 1) ≤ _; omega
      · rcases one j p hp with hp' | ⟨hj, rfl⟩
        · rcases one (j + 1) q hq with hq' | ⟨hj', rfl⟩
          · exact h2 j p q hp' hq'
          · have := (h1 j p hp').2
            show p.2 < En s z (k + 1)
            omega
        · have := (List.getElem?_eq_some_iff.1 hq).1
          simp at this
          omega
      · rw [List.length_append, show ([(od k, En s z (k + 1))] : List (Int × Int)).length = 1 from rfl] at hp
        rcases one _ p hp with h | ⟨_, rfl⟩
        · have := (List.getElem?_eq_some_iff.1 h).1
          omega
        · rfl

theorem Try.info57 : (Try.prog.info? 57).map (fun i => (i.zero, i.size, i.bytes)) = some (some (.agg #[.int .i64 0, .int .u64 0]), 2, 16) := by kernel_rfl
theorem Try.info40 : (Try.prog.info? 40).map (fun i => (i.zero, i.size, i.bytes)) = some (some (.agg #[.int .i64 0, .int .u64 0]), 2, 16) := by kernel_rfl

set_option maxHeartbeats 1000000 in
theorem sharesOf_any (a0 a2 : Option Addr) (n0 c0 n2 c2 : Nat) (hn0 : n0 ≤ 65536) (hn2 : n2 ≤ 65536) (s : Int) (od z : Nat → Int) (w : World) (h0 : IA .i64 w a0 n0 od) (h2 : IA .u64 w a2 n2 z)
    (hd : ∀ k, k < n2 → z k ≠ 0 → k < n0) (hz0 : ∀ k, k < n2 → 0 ≤ z k) (hE : ∀ k, k ≤ n2 → 0 ≤ En s z k ∧ En s z k < 18446744073709551616) :
    Calls Try.prog 28 #[.slice a0 n0 c0, .int .u64 s, .slice a2 n2 c2] w fun e w' => ∃ v, e = .returned v ∧ w'.ownsRow w.heap.size 57 2 v (sh s z od n2).length (shCells (sh s z od n2)) ∧ Below w.heap.size w w' := by
  obtain ⟨i0, hi, hz1, hz2, hz3⟩ := info_parts Try.info57
  go_enter Try.func28, Try.ntmps28
  go_wp2
  go_loopw [1, 7, 12] (fun t v i wr => ∃ k : Nat, k ≤ n2 ∧ i = .int .i64 k ∧ t = .int .u64 (En s z k) ∧ wr.ownsRow w.heap.size 57 2 v (sh s z od k).length (shCells (sh s z od k)) ∧ Below w.heap.size w wr) (fun _ _ i _ => n2 - (intOf i).toNat)
  case atStart => exact ⟨0, Nat.zero_le _, rfl, rfl, World.ownsRow_nil _ _ _ _, Below.refl _ _⟩
  case round =>
    obtain ⟨k, hk, rfl, rfl, hown, hbel⟩ := hrel
    by_cases hlt : k < n2
    · obtain ⟨b, o, ha, hc⟩ := h2 (by omega)
      subst ha
      have g1 : wr.cell? ⟨b, o + k, none⟩ = some (.int .u64 (z k)) := (hbel.cell (p := ⟨b, o + k, none⟩) (World.block_lt_of_cell? w _ (hc k hlt))).trans (hc k hlt)
      have b1 := hE k hk
      have b2 := hE (k + 1) hlt
      have b3 := hz0 k hlt
      have eE : Hid (En s z (k + 1) = En s z k + z k) := rfl
      clear hc h2 hE hz0
      by_cases hzk : z k = 0
      · have hzb : (z k == 0) = true := by simp [hzk]
        have HZ : Hid (z k = 0) := hzk
        clear hzk
        go_wp2
        go_roundw
        case rel => exact ⟨k + 1, by omega, by go_num, by rw [eE.out, HZ.out]; go_num, by rw [sh, if_pos HZ.out]; exact hown, hbel⟩
        case measure => simp [intOf]; omega
      · have hk0 := hd k hlt hzk
        obtain ⟨b', o', ha, hc⟩ := h0 (by omega)
        subst ha
        have g2 : wr.cell? ⟨b', o' + k, none⟩ = some (.int .i64 (od k)) := (hbel.cell (p := ⟨b', o' + k, none⟩) (World.block_lt_of_cell? w _ (hc k hk0))).trans (hc k hk0)
        have hzb : (z k == 0) = false := by simpa using hzk
        have b4 : 0 ≤ En s z k + z k ∧ En s z k + z k < 18446744073709551616 := b2
        have hl := sh_le s z od k
        clear hc h0 hd
        go_wp2_with (at_builtin; refine wpList_append_own _ rfl _ _ 54 rfl w.heap.size 57 i0 (.agg #[.int .i64 0, .int .u64 0]) 2 16 Try.underlying54 hi hz1 hz2 hz3 rfl (by decide) _ _ _ rfl (hown.alloc _) ⟨wr.heap.size, 0, none⟩ 1 1 [.int .i64 (od k), .int .u64 (En s z k + z k)] rfl rfl ?c1 ?c2 ?c3 ?c4 ?c5 ?_)
        case c1 =>
          intro j u hj
          match j, hj with
          | 0, hj => simp at hj; subst hj; simp [Addr.add]
          | 1, hj => simp at hj; subst hj; simp [Addr.add]
          | j + 2, hj => simp at hj
        case c2 => intro u hu; simp at hu; rcases hu with rfl | rfl <;> rfl
        case c3 => unfold maxLen; omega
        case c4 => omega
        case c5 => have := hbel.size; simp; omega
        · intro v' w1 hown' hgrow _
          have hbel' : Below w.heap.size w w1 := (hbel.alloc hbel.size _).grown hgrow (by have := hbel.size; simp; omega) (fun q e => (hown.lt q e).1)
          have hown2 : w1.ownsRow w.heap.size 57 2 v' (sh s z od (k + 1)).length (shCells (sh s z od (k + 1))) := by
            rw [sh, if_neg hzk, shCells_append, List.length_append]; exact hown'
          clear hown' hgrow hown
          go_wp2
          go_roundw
          case rel => exact ⟨k + 1, by omega, by go_num, by rw [eE.out], hown2, hbel'⟩
          case measure => simp [intOf]; omega
    · have e : k = n2 := by omega
      subst e
      clear h0 h2
      go_wp2
      go_ret
      exact ⟨_, rfl, hown, hbel⟩

/-- The shares, copied: what ZZSharesOf returns. -/
def ShR (l : List (Int × Int)) (w' : World) (v : Value) : Prop :=
  (v = .slice none 0 0 ∧ l.length = 0) ∨ ∃ g, v = .slice (some ⟨g, 0, none⟩) l.length l.length ∧ ∀ j p, l[j]? = some p → w'.cell? ⟨g, j * 2 + 1, none⟩ = some (.int .u64 p.2)

/-- The copy's state after k shares. -/
def Cp (l : List (Int × Int)) (w1 wr : World) (k : Nat) : Prop :=
  (∀ j, j < l.length → ∃ x y, wr.cell? ⟨w1.heap.size, j * 2, none⟩ = some (.int .i64 x) ∧ wr.cell? ⟨w1.heap.size, j * 2 + 1, none⟩ = some (.int .u64 y) ∧
    wr.frozen? ⟨w1.heap.size, j * 2, none⟩ = false ∧ wr.frozen? ⟨w1.heap.size, j * 2 + 1, none⟩ = false) ∧
  (∀ j p, j < k → l[j]? = some p → wr.cell? ⟨w1.heap.size, j * 2 + 1, none⟩ = some (.int .u64 p.2)) ∧ Below w1.heap.size w1 wr

theorem cp_start (l : List (Int × Int)) {w1 w2 : World} (h : w2.ownsRow w1.heap.size 40 2 (.slice (some ⟨w1.heap.size, 0, none⟩) l.length l.length) l.length (madeCells #[.int .i64 0, .int .u64 0] (l.length * 2)).toList) (hb : Below w1.heap.size w1 w2) : Cp l w1 w2 0 := by
  refine ⟨fun j hj => ⟨0, 0, ?_, ?_, h.frozenAt _, h.frozenAt _⟩, fun j p hj => by omega, hb⟩
  · rw [h.cellAt (j * 2) (by omega)]
    simp only [madeCells, Array.toList_map, Array.toList_range, List.getElem?_map, List.getElem?_range (show j * 2 < l.length * 2 by omega), Option.map_some]
    rw [show j * 2 % (#[Value.int IntKind.i64 0, Value.int IntKind.u64 0] : Array Value).size = 0 by show j * 2 % 2 = 0; omega]
    rfl
  · rw [h.cellAt (j * 2 + 1) (by omega)]
    simp only [madeCells, Array.toList_map, Array.toList_range, List.getElem?_map, List.getElem?_range (show j * 2 + 1 < l.length * 2 by omega), Option.map_some]
    rw [show (j * 2 + 1) % (#[Value.int IntKind.i64 0, Value.int IntKind.u64 0] : Array Value).size = 1 by show (j * 2 + 1) % 2 = 1; omega]
    rfl

theorem cell_set_other {w : World} {b o b' o' : Nat} {v : Value} (h : b = b' → o ≠ o') : (w.setCell ⟨b, o, none⟩ v).cell? ⟨b', o', none⟩ = w.cell? ⟨b', o', none⟩ :=
  World.cell?_setCell_other _ _ _ _ (by intro e; injection e with e1 e2; exact h e1 e2)

theorem cp_step {l : List (Int × Int)} {w1 wr : World} {k : Nat} (h : Cp l w1 wr k) (hk : k < l.length) (p : Int × Int) (hp : l[k]? = some p) :
    Cp l w1 ((wr.setCell ⟨w1.heap.size, k * 2, none⟩ (.int .i64 p.1)).setCell ⟨w1.heap.size, k * 2 + 1, none⟩ (.int .u64 p.2)).drew (k + 1) := by
  obtain ⟨h1, h2, h3⟩ := h
  obtain ⟨x, y, d1, d2, f1, f2⟩ := h1 k hk
  refine ⟨fun j hj => ?_, fun j q hj hq => ?_, ((h3.setCell (p := ⟨w1.heap.size, k * 2, none⟩) (Nat.le_refl _) _).setCell (p := ⟨w1.heap.size, k * 2 + 1, none⟩) (Nat.le_refl _) _).drew⟩
  · by_cases e : j = k
    · subst e
      refine ⟨p.1, p.2, ?_, ?_, ?_, ?_⟩
      · rw [World.cell?_drew, cell_set_other (by omega)]; exact World.cell?_setCell_same _ _ _ d1
      · rw [World.cell?_drew]; exact World.cell?_setCell_same _ _ _ ((cell_set_other (by omega)).trans d2)
      · show ((wr.setCell _ _).setCell _ _).frozen? _ = false; rw [World.frozen?_setCell, World.frozen?_setCell]; exact f1
      · show ((wr.setCell _ _).setCell _ _).frozen? _ = false; rw [World.frozen?_setCell, World.frozen?_setCell]; exact f2
    · obtain ⟨x', y', e1, e2, e3, e4⟩ := h1 j hj
      refine ⟨x', y', ?_, ?_, ?_, ?_⟩
      · rw [World.cell?_drew, cell_set_other (by omega), cell_set_other (by omega)]; exact e1
      · rw [World.cell?_drew, cell_set_other (by omega), cell_set_other (by omega)]; exact e2
      · show ((wr.setCell _ _).setCell _ _).frozen? _ = false; rw [World.frozen?_setCell, World.frozen?_setCell]; exact e3
      · show ((wr.setCell _ _).setCell _ _).frozen? _ = false; rw [World.frozen?_setCell, World.frozen?_setCell]; exact e4
  · by_cases e : j = k
    · subst e
      rw [hp] at hq
      obtain rfl := Option.some.inj hq
      rw [World.cell?_drew]; exact World.cell?_setCell_same _ _ _ ((cell_set_other (by omega)).trans d2)
    · rw [World.cell?_drew, cell_set_other (by omega), cell_set_other (by omega)]; exact h2 j q (by omega) hq

set_option maxRecDepth 100000 in
set_option maxHeartbeats 1000000 in
theorem zzSharesOf (l : List (Int × Int)) (a0 a2 : Option Addr) (n0 c0 n2 c2 : Nat) (hn0 : n0 ≤ 65536) (hn2 : n2 ≤ 65536) (s : Int) (od z : Nat → Int) (w : World) (h0 : IA .i64 w a0 n0 od) (h2 : IA .u64 w a2 n2 z)
    (hd : ∀ k, k < n2 → z k ≠ 0 → k < n0) (hz0 : ∀ k, k < n2 → 0 ≤ z k) (hE : ∀ k, k ≤ n2 → 0 ≤ En s z k ∧ En s z k < 18446744073709551616) (hl0 : Hid (sh s z od n2 = l)) :
    Calls Try.prog 20 #[.slice a0 n0 c0, .int .u64 s, .slice a2 n2 c2] w fun e w' => ∃ v, e = .returned v ∧ ShR l w' v ∧ Below w.heap.size w w' := by
  go_enter Try.func20, Try.ntmps20
  go_wp2_with fail
  refine (sharesOf_any a0 a2 n0 c0 n2 c2 hn0 hn2 s od z _ h0 h2 hd hz0 hE).mono ?_
  rintro e w1 ⟨v, rfl, hown, hbel⟩
  clear h0 h2 hd hz0 hE
  have hl := sh_le s z od n2
  rw [hl0.out] at hown hl
  clear hl0
  rcases hown.2 with ⟨hv, hn⟩ | ⟨g, cap, cur, hv, hg, hh, hcap, -, hcs, htake⟩
  · subst hv
    have hq : ∀ w, (binOp .eql 54 (.slice none 0 0) (.slice none 0 0)).run Try.prog w = .ok (.bool true) w := fun w => Lib.run_eql_slice_nil w 54 57 _ 0 0 0 0 Try.underlying54
    go_wp2
    go_ret
    exact ⟨_, rfl, .inl ⟨rfl, hn⟩, hbel⟩
  · subst hv
    have hq : ∀ w, (binOp .eql 54 (.slice (some ⟨g, 0, none⟩) l.length cap) (.slice none 0 0)).run Try.prog w = .ok (.bool false) w := fun w => Lib.run_eql_slice_nil w 54 57 _ _ _ 0 0 Try.underlying54
    obtain ⟨i0, hi, hz1, hz2, hz3⟩ := info_parts Try.info40
    go_wp2_with (at_make; refine wpList_make_full _ rfl _ _ 37 rfl w1.heap.size 40 i0 (.agg #[.int .i64 0, .int .u64 0]) 2 Try.underlying37 hi hz1 hz2 .i64 .i64 l.length l.length l.length rfl rfl rfl rfl ?b1 ?b2 ?b3 ?_)
    case b1 => rw [hz3]; omega
    case b2 => unfold maxLen; omega
    case b3 => exact Nat.le_refl _
    · intro w2 hown2 hgrow
      have hsrc : ∀ j p, l[j]? = some p → w1.cell? ⟨g, j * 2, none⟩ = some (.int .i64 p.1) ∧ w1.cell? ⟨g, j * 2 + 1, none⟩ = some (.int .u64 p.2) := by
        intro j p hj
        have hjl : j < l.length := (List.getElem?_eq_some_iff.1 hj).1
        have e := shCells_get l j p hj
        rw [hown.cellAt (j * 2) (by omega), hown.cellAt (j * 2 + 1) (by omega)]
        exact e
      have hst := cp_start l hown2 (Below.refl _ _ |>.grown hgrow (Nat.le_refl _) (by simp))
      have hgl : g < w1.heap.size := (hown.lt g rfl).2
      clear hown2 hgrow hown hh hcs htake hq hi hz1 hz2 hz3
      go_wp2
      go_loopw [9] (fun i wr => ∃ k : Nat, k ≤ l.length ∧ i = .int .i64 k ∧ Cp l w1 wr k) (fun i _ => l.length - (intOf i).toNat)
      case atStart => exact ⟨0, Nat.zero_le _, rfl, hst⟩
      case round =>
        obtain ⟨k, hk, rfl, hcp⟩ := hrel
        by_cases hlt : k < l.length
        · obtain ⟨p, hp⟩ : ∃ p, l[k]? = some p := ⟨_, List.getElem?_eq_getElem hlt⟩
          obtain ⟨s1, s2⟩ := hsrc k p hp
          have g1 : wr.cell? ⟨g, k * 2, none⟩ = some (.int .i64 p.1) := (hcp.2.2.cell (p := ⟨g, k * 2, none⟩) hgl).trans s1
          have g2 : wr.cell? ⟨g, k * 2 + 1, none⟩ = some (.int .u64 p.2) := (hcp.2.2.cell (p := ⟨g, k * 2 + 1, none⟩) hgl).trans s2
          obtain ⟨x, y, d1, d2, f1, f2⟩ := hcp.1 k hlt
          have i1 : (k : Int) < l.length := by omega
          clear hsrc s1 s2 hst
          go_wp2
          go_region
          all_goals
            go_wp2
            go_roundw
            case rel =>
              exact ⟨k + 1, by omega, by go_num, cp_step hcp hlt p hp⟩
            case measure => simp [intOf]; omega
        · clear hsrc hst
          go_wp2
          go_ret
          refine ⟨_, rfl, .inr ⟨_, rfl, fun j q hj => hcp.2.1 j q ?_ hj⟩, hbel.trans (hcp.2.2.mono hbel.size)⟩
          have := (List.getElem?_eq_some_iff.1 hj).1
          omega
end Go.Proofs.Qxb6601691a
