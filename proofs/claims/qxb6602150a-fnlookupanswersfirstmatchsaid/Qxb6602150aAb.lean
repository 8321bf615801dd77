import Derived.Test.Qxb6602150aCl
import Derived.Deep.DeepCutAuto
import Derived.Deep.CutBlock
namespace Go.Proofs.Qxb6602150a
open Go.RowKit

/-- What the form's reach gives of the tree: no list and no string of more than 2^47 bytes. -/
def WtA : Nat → Nat → (Nat → Ag) → Prop
  | 0, _, _ => True
  | d + 1, n, ga => n ≤ 2199023255552 ∧ ∀ i, i < n → (ga i).name.size ≤ 140737488355328 ∧ (ga i).m ≤ 4398046511104 ∧ (∀ t, t < (ga i).m → ((ga i).ts t).k.size ≤ 140737488355328 ∧ ((ga i).ts t).t.size ≤ 140737488355328) ∧ WtA d (ga i).n (ga i).gs

def AB (d : Nat) : Prop := ∀ (w : World) (S : Nat → Prop) (v : Value) (nl : Bool) (n : Nat) (ga : Nat → Ag) (l : Nat), RdA w S d v nl n ga → WtA d n ga → l ≤ 1048576 →
  Calls Try.prog 5 #[v, .int .i64 l] w fun e w' => (∃ t : Nat, e = .returned (.int .i64 t) ∧ t ≤ l + 1 ∧ (t ≤ l → BdA d n ga)) ∧ w' = w

/-- zzB1Add's answer, in the caller's words. -/
def AddR (t n l : Nat) (e : Ending) : Prop := (t + n ≤ l ∧ e = .returned (.int .i64 (t + n : Nat))) ∨ (l < t + n ∧ e = .returned (.int .i64 (l + 1 : Nat)))
theorem addR (t n l : Nat) (ht : t ≤ l) (hn : n ≤ 4611686018427387904) (hl : l ≤ 1048576) (x : Int) (hx : x = n) (w : World) : Calls Try.prog 11 #[.int .i64 t, .int .i64 x, .int .i64 l] w fun e w' => AddR t n l e ∧ w' = w := by
  subst hx
  refine (add11 t n l ht hn hl w).mono ?_
  rintro e w' ⟨rfl, rfl⟩
  refine ⟨?_, rfl⟩
  by_cases h : t + n ≤ l
  · rw [if_pos h]; exact .inl ⟨h, rfl⟩
  · rw [if_neg h]; exact .inr ⟨by omega, rfl⟩

set_option maxRecDepth 100000 in
set_option maxHeartbeats 16000000 in
theorem ab5 (d : Nat) (H : AB d) : AB (d + 1) := by
  intro w S v nl n ga l hA hW hl
  obtain ⟨x, c, rfl, -⟩ := hA.form
  have hn := hW.1
  have hW2 : Hid _ := hW.2
  have hA : Hid _ := hA
  clear hW
  go_enter Try.func5, Try.ntmps5
  go_wp2_with fail
  refine (addR 0 (72 * n) l (Nat.zero_le _) (by omega) hl _ (by omega) _).mono ?_
  rintro e w' ⟨⟨h1, rfl⟩ | ⟨h1, rfl⟩, hw'⟩
  · have hw := hw'.symm
    subst hw
    have hn2 : 72 * n ≤ l := by omega
    have d1 : decide ((l : Int) < ((0 + 72 * n : Nat) : Int)) = false := by simp; omega
    generalize hT0 : 0 + 72 * n = T0 at *
    have hT0 : Hid (T0 ≤ l) := h1
    have d1' : decide (l < T0) = false := by simp; omega
    go_wp2_with fail
    go_loopw [5, 6] (fun tt i wr => wr = w ∧ ∃ j T : Nat, i = .int .i64 j ∧ tt = .int .i64 T ∧ j ≤ n ∧ T ≤ l ∧ Hid (∀ i, i < j → BdA d (ga i).n (ga i).gs ∧ (ga i).m ≤ 1048576)) (fun _ i _ => n - (intOf i).toNat)
    case atStart => exact ⟨rfl, 0, T0, rfl, rfl, Nat.zero_le _, hT0.out, fun i hi => by omega⟩
    case round =>
      obtain ⟨hwr, j, T, rfl, rfl, hj, hT, hB⟩ := hrel
      have hwr := hwr.symm
      subst hwr
      by_cases hlt : j < n
      · obtain ⟨b, o, va, vv, rfl, g1, g2, g3, g4, g5⟩ : ∃ b o va vv, x = some ⟨b, o, none⟩ ∧ w.cell? ⟨b, o + j * 4, none⟩ = some (.string (ga j).name) ∧ w.cell? ⟨b, o + j * 4 + 1, none⟩ = some va ∧ w.cell? ⟨b, o + j * 4 + 2, none⟩ = some vv ∧ RdA w S d va (ga j).an (ga j).n (ga j).gs ∧ RdT w S vv (ga j).vn (ga j).m (ga j).ts := by
          rcases hA.out with ⟨_, h, _⟩ | ⟨_, ad, c', h3, h4⟩
          · omega
          · injection h3 with h3 _ _
            obtain ⟨b, o, va, vv, h, g0, g1, g2, g3, g4, g5, g6⟩ := h4 j hlt
            exact ⟨b, o, va, vv, by rw [h3, h], g1, g2, g3, g5, g6⟩
        obtain ⟨q1, q2, q3, q4⟩ := hW2.out j hlt
        have HA : Hid _ := fun l' hl' => H w S va _ _ _ l' g4 q4 hl'
        obtain ⟨x2, k2, rfl, -⟩ := g5.form
        have gT : Hid _ := g5
        have q3 : Hid _ := q3
        clear g4 g5 q4 hA
        have i1 : (j : Int) < n := by omega
        go_wp2_with fail
        refine (addR T (ga j).name.size l hT (by omega) hl _ rfl _).mono ?_
        rintro e w' ⟨⟨h2, rfl⟩ | ⟨h2, rfl⟩, hw'⟩
        · have hw := hw'.symm
          subst hw
          generalize hT1 : T + (ga j).name.size = T1 at *
          have d2 : decide ((l : Int) < (T1 : Int)) = false := by simp; omega
          have d2' : decide (l < T1) = false := by simp; omega
          clear hT1
          go_wp2_with fail
          refine (addR T1 (40 * (ga j).m) l h2 (by omega) hl _ (by omega) _).mono ?_
          rintro e w' ⟨⟨h3, rfl⟩ | ⟨h3, rfl⟩, hw'⟩
          · have hw := hw'.symm
            subst hw
            have hm1 : (ga j).m ≤ 1048576 := by omega
            generalize hT2 : T1 + 40 * (ga j).m = T2 at *
            have d3 : decide ((l : Int) < (T2 : Int)) = false := by simp; omega
            have d3' : decide (l < T2) = false := by simp; omega
            clear hT2
            go_upto_block 2 with fail
            go_cut [4, 5, 7] from 51 to 94 (fun _ tt _ wx => wx = w ∧ ∃ T3 : Nat, tt = .int .i64 T3 ∧ T3 ≤ l)
            case first =>
              go_wp2_with fail
              go_loopw [5, 7] (fun tt i wr => wr = w ∧ ∃ t T3 : Nat, i = .int .i64 t ∧ tt = .int .i64 T3 ∧ t ≤ (ga j).m ∧ T3 ≤ l) (fun _ i _ => (ga j).m - (intOf i).toNat)
              case atStart => exact ⟨rfl, 0, T2, rfl, rfl, Nat.zero_le _, h3⟩
              case round =>
                obtain ⟨hwr, t, T3, rfl, rfl, ht, hT3⟩ := hrel
                have hwr := hwr.symm
                subst hwr
                by_cases hlt2 : t < (ga j).m
                · obtain ⟨b2, o2, rfl, f1, f2⟩ : ∃ b o, x2 = some ⟨b, o, none⟩ ∧ w.cell? ⟨b, o + t * 3, none⟩ = some (.string ((ga j).ts t).k) ∧ w.cell? ⟨b, o + t * 3 + 1, none⟩ = some (.string ((ga j).ts t).t) := by
                    rcases gT.out with ⟨_, h, _⟩ | ⟨_, ad, c', h3, h4⟩
                    · omega
                    · injection h3 with h3 _ _
                      obtain ⟨b, o, h, g0, g1, g2, g3⟩ := h4 t hlt2
                      exact ⟨b, o, by rw [h3, h], g1, g2⟩
                  obtain ⟨z1, z2⟩ := q3.out t hlt2
                  have i2 : (t : Int) < (ga j).m := by omega
                  go_wp2_with fail
                  refine (addR T3 ((ga j).ts t).k.size l hT3 (by omega) hl _ rfl _).mono ?_
                  rintro e w' ⟨⟨h4, rfl⟩ | ⟨h4, rfl⟩, hw'⟩
                  · have hw := hw'.symm
                    subst hw
                    generalize hT4 : T3 + ((ga j).ts t).k.size = T4 at *
                    have d4 : decide ((l : Int) < (T4 : Int)) = false := by simp; omega
                    have d4' : decide (l < T4) = false := by simp; omega
                    clear hT4
                    go_wp2_with fail
                    refine (addR T4 ((ga j).ts t).t.size l h4 (by omega) hl _ rfl _).mono ?_
                    rintro e w' ⟨⟨h5, rfl⟩ | ⟨h5, rfl⟩, hw'⟩
                    · have hw := hw'.symm
                      subst hw
                      generalize hT5 : T4 + ((ga j).ts t).t.size = T5 at *
                      have d5 : decide ((l : Int) < (T5 : Int)) = false := by simp; omega
                      have d5' : decide (l < T5) = false := by simp; omega
                      clear hT5
                      go_wp2
                      go_roundw
                      case rel => exact ⟨by first | rfl | trivial, t + 1, T5, by go_num, rfl, by omega, h5⟩
                      case measure => simp [intOf]; omega
                    · have hw := hw'.symm
                      subst hw
                      have d5 : (l : Int) < ((l + 1 : Nat) : Int) := by omega
                      go_wp2
                      go_ret
                      exact ⟨⟨l + 1, by first | rfl | go_num, Nat.le_refl _, fun h => by omega⟩, rfl⟩
                  · have hw := hw'.symm
                    subst hw
                    have d5 : (l : Int) < ((l + 1 : Nat) : Int) := by omega
                    go_wp2
                    go_ret
                    exact ⟨⟨l + 1, by first | rfl | go_num, Nat.le_refl _, fun h => by omega⟩, rfl⟩
                · have i2 : decide ((t : Int) < (ga j).m) = false := by simp; omega
                  go_wp2
                  go_meet
                  case rel => exact ⟨rfl, T3, rfl, hT3⟩
            case rest =>
              obtain ⟨rfl, T3, rfl, hT3⟩ := hcut
              have hsub : (l : Int) - T3 = ((l - T3 : Nat) : Int) := by omega
              have HC := HA.out (l - T3) (by omega)
              go_wp2_with fail
              refine HC.mono ?_
              rintro e w' ⟨⟨t', rfl, h5, h6⟩, hw'⟩
              have hw := hw'.symm
              subst hw
              have h6 : Hid _ := h6
              clear HC
              by_cases h7 : t' ≤ l - T3
              · have d6 : decide (((l - T3 : Nat) : Int) < (t' : Int)) = false := by simp; omega
                go_wp2
                go_roundw
                case rel => 
                  refine ⟨by first | rfl | trivial, j + 1, T3 + t', by go_num, by go_num, by omega, by omega, fun i hi => ?_⟩
                  by_cases e : i = j
                  · rw [e]; exact ⟨h6.out h7, hm1⟩
                  · exact hB.out i (by omega)
                case measure => simp [intOf]; omega
              · have d6 : ((l - T3 : Nat) : Int) < (t' : Int) := by omega
                go_wp2
                go_ret
                exact ⟨⟨l + 1, by first | rfl | go_num, Nat.le_refl _, fun h => by omega⟩, rfl⟩
          · have hw := hw'.symm
            subst hw
            have d5 : (l : Int) < ((l + 1 : Nat) : Int) := by omega
            go_wp2
            go_ret
            exact ⟨⟨l + 1, by first | rfl | go_num, Nat.le_refl _, fun h => by omega⟩, rfl⟩
        · have hw := hw'.symm
          subst hw
          have d5 : (l : Int) < ((l + 1 : Nat) : Int) := by omega
          go_wp2
          go_ret
          exact ⟨⟨l + 1, by first | rfl | go_num, Nat.le_refl _, fun h => by omega⟩, rfl⟩
      · have i1 : decide ((j : Int) < n) = false := by simp; omega
        have hr : Hid (BdA (d + 1) n ga) := ⟨by omega, fun i hi => hB.out i (by omega)⟩
        go_wp2
        go_ret
        exact ⟨⟨T, rfl, by omega, fun _ => hr.out⟩, rfl⟩
  · have hw := hw'.symm
    subst hw
    have d5 : (l : Int) < ((l + 1 : Nat) : Int) := by omega
    go_wp2
    go_ret
    exact ⟨⟨l + 1, by first | rfl | go_num, Nat.le_refl _, fun h => by omega⟩, rfl⟩

theorem ab_all : ∀ d, AB d
  | 0 => fun _ _ _ _ _ _ _ h => h.elim
  | d + 1 => ab5 d (ab_all d)
end Go.Proofs.Qxb6602150a
