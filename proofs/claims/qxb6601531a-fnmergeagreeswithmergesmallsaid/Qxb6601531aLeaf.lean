import Derived.Test.Qxb6601531aProg
import Derived.WalkKit
import Derived.WalkLawsBesides
import Derived.Outline
import Derived.Deep.OwnRows
import Derived.Deep.QuietTactic
import Derived.BigQuiet
namespace Go.Proofs.Qxb6601531a
open Go.RowKit

/-- What is known of a slice of strings: where it has an element it leads to a row of cells, the strings f i. -/
def SA (w : World) (a : Option Addr) (n : Nat) (f : Nat → ByteArray) : Prop :=
  0 < n → ∃ b o, a = some ⟨b, o, none⟩ ∧ ∀ i, i < n → w.cell? ⟨b, o + i, none⟩ = some (.string (f i))

/-- It returned some bool. -/
def AnyBool (e : Ending) : Prop := ∃ b, e = .returned (.bool b)
theorem anyBool (b : Bool) : AnyBool (.returned (.bool b)) := ⟨b, rfl⟩

set_option maxHeartbeats 2000000 in
theorem zz21 (a0 a1 a2 a3 a4 : Option Addr) (n0 c0 n1 c1 n2 c2 n3 c3 n4 c4 : Nat) (f g : Nat → ByteArray) (w : World) (h0 : SA w a0 n0 f) (h2 : SA w a2 n2 g) :
    Calls Try.prog 21 #[.slice a0 n0 c0, .slice a1 n1 c1, .slice a2 n2 c2, .slice a3 n3 c3, .slice a4 n4 c4] w fun e w' => AnyBool e ∧ w' = w := by
  go_enter Try.func21, Try.ntmps21
  go_wp2
  · go_ret; exact ⟨anyBool _, rfl⟩
  go_loop [11, 12] (fun z i => ∃ k t : Nat, k ≤ n0 ∧ t ≤ 1048576 ∧ i = .int .i64 k ∧ z = .int .i64 t) (fun _ i => n0 - (intOf i).toNat)
  case atStart => exact ⟨0, n0, Nat.zero_le _, by omega, rfl, by go_num⟩
  case round =>
    obtain ⟨k, t, hk, ht, rfl, rfl⟩ := hrel
    by_cases hlt : k < n0
    · obtain ⟨b, o, ha, hc⟩ := h0 (by omega)
      subst ha
      have g1 := hc k hlt
      clear hc h0
      go_wp2
      · go_ret; exact ⟨anyBool _, rfl⟩
      · go_ret; exact ⟨anyBool _, rfl⟩
      · go_round
        case rel => exact ⟨k + 1, t + (f k).size, by omega, by omega, by go_num, by go_num⟩
        case measure => simp [intOf]; omega
    · clear h0
      go_wp2
      all_goals (try (go_ret; exact ⟨anyBool _, rfl⟩))
      go_loop [11, 13] (fun z i => ∃ k t : Nat, k ≤ n2 ∧ t ≤ 1048576 ∧ i = .int .i64 k ∧ z = .int .i64 t) (fun _ i => n2 - (intOf i).toNat)
      case atStart => exact ⟨0, t + n1 + n2, Nat.zero_le _, by omega, rfl, by go_num⟩
      case round =>
        obtain ⟨k2, t2, hk2, ht2, rfl, rfl⟩ := hrel
        by_cases hlt : k2 < n2
        · obtain ⟨b, o, ha, hc⟩ := h2 (by omega)
          subst ha
          have g1 := hc k2 hlt
          clear hc h2
          go_wp2
          · go_ret; exact ⟨anyBool _, rfl⟩
          · go_ret; exact ⟨anyBool _, rfl⟩
          · go_round
            case rel => exact ⟨k2 + 1, t2 + (g k2).size, by omega, by omega, by go_num, by go_num⟩
            case measure => simp [intOf]; omega
        · clear h2
          go_wp2
          all_goals (go_ret; exact ⟨anyBool _, rfl⟩)

set_option maxHeartbeats 2000000 in
theorem zz25 (a0 a1 a2 a3 : Option Addr) (n0 c0 n1 c1 n2 c2 n3 c3 : Nat) (f g : Nat → ByteArray) (w : World) (h0 : SA w a0 n0 f) (h2 : SA w a2 n2 g) :
    Calls Try.prog 25 #[.slice a0 n0 c0, .slice a1 n1 c1, .slice a2 n2 c2, .slice a3 n3 c3] w fun e w' => AnyBool e ∧ w' = w := by
  go_enter Try.func25, Try.ntmps25
  go_wp2
  · go_ret; exact ⟨anyBool _, rfl⟩
  go_loop [9, 10] (fun z i => ∃ k t : Nat, k ≤ n0 ∧ t ≤ 1048576 ∧ i = .int .i64 k ∧ z = .int .i64 t) (fun _ i => n0 - (intOf i).toNat)
  case atStart => exact ⟨0, n0, Nat.zero_le _, by omega, rfl, by go_num⟩
  case round =>
    obtain ⟨k, t, hk, ht, rfl, rfl⟩ := hrel
    by_cases hlt : k < n0
    · obtain ⟨b, o, ha, hc⟩ := h0 (by omega)
      subst ha
      have g1 := hc k hlt
      clear hc h0
      go_wp2
      · go_ret; exact ⟨anyBool _, rfl⟩
      · go_ret; exact ⟨anyBool _, rfl⟩
      · go_round
        case rel => exact ⟨k + 1, t + (f k).size, by omega, by omega, by go_num, by go_num⟩
        case measure => simp [intOf]; omega
    · clear h0
      go_wp2
      all_goals (try (go_ret; exact ⟨anyBool _, rfl⟩))
      go_loop [9, 11] (fun z i => ∃ k t : Nat, k ≤ n2 ∧ t ≤ 1048576 ∧ i = .int .i64 k ∧ z = .int .i64 t) (fun _ i => n2 - (intOf i).toNat)
      case atStart => exact ⟨0, t + n1 + n2, Nat.zero_le _, by omega, rfl, by go_num⟩
      case round =>
        obtain ⟨k2, t2, hk2, ht2, rfl, rfl⟩ := hrel
        by_cases hlt : k2 < n2
        · obtain ⟨b, o, ha, hc⟩ := h2 (by omega)
          subst ha
          have g1 := hc k2 hlt
          clear hc h2
          go_wp2
          · go_ret; exact ⟨anyBool _, rfl⟩
          · go_ret; exact ⟨anyBool _, rfl⟩
          · go_round
            case rel => exact ⟨k2 + 1, t2 + (g k2).size, by omega, by omega, by go_num, by go_num⟩
            case measure => simp [intOf]; omega
        · clear h2
          go_wp2
          all_goals (go_ret; exact ⟨anyBool _, rfl⟩)

end Go.Proofs.Qxb6601531a
