import Derived.Test.Qxb6602091aDoorProg
import Derived.Test.Qxb6602091aDoorPlain
import Derived.WalkKit
import Derived.WalkLawsBesides
import Derived.WalkSpells
import Derived.Outline
import Derived.Sort.Grow
namespace Go.Proofs.Qxb6602091aDoor
open Go.RowKit

/-- The names of the nine types. -/
def nameOf : Nat → ByteArray
  | 0 => ⟨#[110, 111, 110, 101]⟩
  | 1 => ⟨#[116, 101, 120, 116]⟩
  | 2 => ⟨#[101, 109, 97, 105, 108]⟩
  | 3 => ⟨#[112, 97, 115, 115, 119, 111, 114, 100]⟩
  | 4 => ⟨#[117, 114, 108]⟩
  | 5 => ⟨#[116, 101, 108]⟩
  | 6 => ⟨#[110, 117, 109, 98, 101, 114]⟩
  | 7 => ⟨#[99, 104, 101, 99, 107, 98, 111, 120]⟩
  | _ => ⟨#[100, 97, 116, 101, 116, 105, 109, 101, 45, 108, 111, 99, 97, 108]⟩

set_option maxHeartbeats 1000000 in
theorem str0 (w : World) : Calls Tryd.prog 16 #[.int .i64 0] w fun e w' => e = .returned (.string (nameOf 0)) ∧ w' = w := by
  go_enter Tryd.func16, Tryd.ntmps16
  go_wp2
  go_ret
  exact ⟨rfl, rfl⟩

set_option maxHeartbeats 1000000 in
theorem parse0 (w : World) : Calls Tryd.prog 8 #[.string (nameOf 0)] w fun e w' => e = .returned (.tuple #[.bool false, .int .u64 0, .bool true]) ∧ w' = w := by
  unfold nameOf
  go_enter Tryd.func8, Tryd.ntmps8
  go_wp2
  go_ret3
  exact ⟨rfl, rfl⟩

set_option maxHeartbeats 1000000 in
theorem str1 (w : World) : Calls Tryd.prog 16 #[.int .i64 1] w fun e w' => e = .returned (.string (nameOf 1)) ∧ w' = w := by
  go_enter Tryd.func16, Tryd.ntmps16
  go_wp2
  go_ret
  exact ⟨rfl, rfl⟩

set_option maxHeartbeats 1000000 in
theorem parse1 (w : World) : Calls Tryd.prog 8 #[.string (nameOf 1)] w fun e w' => e = .returned (.tuple #[.bool false, .int .u64 1, .bool true]) ∧ w' = w := by
  unfold nameOf
  go_enter Tryd.func8, Tryd.ntmps8
  go_wp2
  go_ret3
  exact ⟨rfl, rfl⟩

set_option maxHeartbeats 1000000 in
theorem str2 (w : World) : Calls Tryd.prog 16 #[.int .i64 2] w fun e w' => e = .returned (.string (nameOf 2)) ∧ w' = w := by
  go_enter Tryd.func16, Tryd.ntmps16
  go_wp2
  go_ret
  exact ⟨rfl, rfl⟩

set_option maxHeartbeats 1000000 in
theorem parse2 (w : World) : Calls Tryd.prog 8 #[.string (nameOf 2)] w fun e w' => e = .returned (.tuple #[.bool false, .int .u64 2, .bool true]) ∧ w' = w := by
  unfold nameOf
  go_enter Tryd.func8, Tryd.ntmps8
  go_wp2
  go_ret3
  exact ⟨rfl, rfl⟩

set_option maxHeartbeats 1000000 in
theorem str3 (w : World) : Calls Tryd.prog 16 #[.int .i64 3] w fun e w' => e = .returned (.string (nameOf 3)) ∧ w' = w := by
  go_enter Tryd.func16, Tryd.ntmps16
  go_wp2
  go_ret
  exact ⟨rfl, rfl⟩

set_option maxHeartbeats 1000000 in
theorem parse3 (w : World) : Calls Tryd.prog 8 #[.string (nameOf 3)] w fun e w' => e = .returned (.tuple #[.bool false, .int .u64 3, .bool true]) ∧ w' = w := by
  unfold nameOf
  go_enter Tryd.func8, Tryd.ntmps8
  go_wp2
  go_ret3
  exact ⟨rfl, rfl⟩

set_option maxHeartbeats 1000000 in
theorem str4 (w : World) : Calls Tryd.prog 16 #[.int .i64 4] w fun e w' => e = .returned (.string (nameOf 4)) ∧ w' = w := by
  go_enter Tryd.func16, Tryd.ntmps16
  go_wp2
  go_ret
  exact ⟨rfl, rfl⟩

set_option maxHeartbeats 1000000 in
theorem parse4 (w : World) : Calls Tryd.prog 8 #[.string (nameOf 4)] w fun e w' => e = .returned (.tuple #[.bool false, .int .u64 4, .bool true]) ∧ w' = w := by
  unfold nameOf
  go_enter Tryd.func8, Tryd.ntmps8
  go_wp2
  go_ret3
  exact ⟨rfl, rfl⟩

set_option maxHeartbeats 1000000 in
theorem str5 (w : World) : Calls Tryd.prog 16 #[.int .i64 5] w fun e w' => e = .returned (.string (nameOf 5)) ∧ w' = w := by
  go_enter Tryd.func16, Tryd.ntmps16
  go_wp2
  go_ret
  exact ⟨rfl, rfl⟩

set_option maxHeartbeats 1000000 in
theorem parse5 (w : World) : Calls Tryd.prog 8 #[.string (nameOf 5)] w fun e w' => e = .returned (.tuple #[.bool false, .int .u64 5, .bool true]) ∧ w' = w := by
  unfold nameOf
  go_enter Tryd.func8, Tryd.ntmps8
  go_wp2
  go_ret3
  exact ⟨rfl, rfl⟩

set_option maxHeartbeats 1000000 in
theorem str6 (w : World) : Calls Tryd.prog 16 #[.int .i64 6] w fun e w' => e = .returned (.string (nameOf 6)) ∧ w' = w := by
  go_enter Tryd.func16, Tryd.ntmps16
  go_wp2
  go_ret
  exact ⟨rfl, rfl⟩

set_option maxHeartbeats 1000000 in
theorem parse6 (w : World) : Calls Tryd.prog 8 #[.string (nameOf 6)] w fun e w' => e = .returned (.tuple #[.bool false, .int .u64 6, .bool true]) ∧ w' = w := by
  unfold nameOf
  go_enter Tryd.func8, Tryd.ntmps8
  go_wp2
  go_ret3
  exact ⟨rfl, rfl⟩

set_option maxHeartbeats 1000000 in
theorem str7 (w : World) : Calls Tryd.prog 16 #[.int .i64 7] w fun e w' => e = .returned (.string (nameOf 7)) ∧ w' = w := by
  go_enter Tryd.func16, Tryd.ntmps16
  go_wp2
  go_ret
  exact ⟨rfl, rfl⟩

set_option maxHeartbeats 1000000 in
theorem parse7 (w : World) : Calls Tryd.prog 8 #[.string (nameOf 7)] w fun e w' => e = .returned (.tuple #[.bool false, .int .u64 7, .bool true]) ∧ w' = w := by
  unfold nameOf
  go_enter Tryd.func8, Tryd.ntmps8
  go_wp2
  go_ret3
  exact ⟨rfl, rfl⟩

set_option maxHeartbeats 1000000 in
theorem str8 (w : World) : Calls Tryd.prog 16 #[.int .i64 8] w fun e w' => e = .returned (.string (nameOf 8)) ∧ w' = w := by
  go_enter Tryd.func16, Tryd.ntmps16
  go_wp2
  go_ret
  exact ⟨rfl, rfl⟩

set_option maxHeartbeats 1000000 in
theorem parse8 (w : World) : Calls Tryd.prog 8 #[.string (nameOf 8)] w fun e w' => e = .returned (.tuple #[.bool false, .int .u64 8, .bool true]) ∧ w' = w := by
  unfold nameOf
  go_enter Tryd.func8, Tryd.ntmps8
  go_wp2
  go_ret3
  exact ⟨rfl, rfl⟩

set_option maxHeartbeats 1000000 in
theorem str_big (t : Int) (ht : t < 0 ∨ 8 < t) (I : ByteArray) (hI : I.size ≤ 21) (w : World) (hIt : Calls Tryd.prog 18 #[.int .i64 t] w fun e w' => e = .returned (.string I) ∧ Below w.heap.size w w') :
    Calls Tryd.prog 16 #[.int .i64 t] w fun e w' => e = .returned (.string ((⟨#[105, 110, 112, 117, 116, 84, 121, 112, 101, 40]⟩ ++ I) ++ ⟨#[41]⟩)) ∧ Below w.heap.size w w' := by
  go_enter Tryd.func16, Tryd.ntmps16
  go_wp2_with fail
  refine hIt.mono ?_
  rintro e w' ⟨rfl, hb⟩
  go_wp2
  go_ret
  exact ⟨rfl, hb⟩

theorem tup3 {x y : Value} {k : IntKind} {a b : Int} (h : a = b) : Ending.returned (.tuple #[x, .int k a, y]) = .returned (.tuple #[x, .int k b, y]) := by rw [h]

theorem step_rd (D : ByteArray) (k : Nat) (h : k < D.size) (h48 : 48 ≤ (D[k]'h).toNat) : (rd 0 (D.data.toList.take (k + 1)) : Int) = (rd 0 (D.data.toList.take k) : Int) * 10 + (((D[k]'h).toNat : Int) - 48) := by
  have h' : k < D.data.toList.length := by simpa using h
  have e : D.data.toList[k] = D[k]'h := rfl
  rw [rd_take_succ _ _ h', e]
  omega

def noNames (s : ByteArray) : Prop := (s.toList == [110, 111, 110, 101]) = false ∧ (s.toList == [116, 101, 120, 116]) = false ∧ (s.toList == [101, 109, 97, 105, 108]) = false ∧ (s.toList == [112, 97, 115, 115, 119, 111, 114, 100]) = false ∧ (s.toList == [117, 114, 108]) = false ∧ (s.toList == [116, 101, 108]) = false ∧ (s.toList == [110, 117, 109, 98, 101, 114]) = false ∧ (s.toList == [99, 104, 101, 99, 107, 98, 111, 120]) = false ∧ (s.toList == [100, 97, 116, 101, 116, 105, 109, 101, 45, 108, 111, 99, 97, 108]) = false

set_option maxRecDepth 100000 in
set_option maxHeartbeats 2000000 in
theorem parse_neg (s : ByteArray) (h : noNames s) (h12 : 12 ≤ s.size) (h40 : s.size ≤ 40) (hh : ((s.extract 0 10).toList == [105, 110, 112, 117, 116, 84, 121, 112, 101, 40]) = true)
    (hl : ((s[s.size - 1]'(by omega)).toNat : Int) = 41) (B : ByteArray) (hB : s.extract 10 (s.size - 1) = B) (hB2 : 2 ≤ B.size) (hB0 : ((B[0]'(by omega)).toNat : Int) = 45) (D : ByteArray) (hD : B.extract 1 B.size = D)
    (hD1 : 1 ≤ D.size) (hD20 : D.size ≤ 20) (hD0 : (((D[0]'(by omega)).toNat : Int) == 48) = false) (hdig : ∀ (k : Nat) (h : k < D.size), 48 ≤ (D[k]'h).toNat ∧ (D[k]'h).toNat ≤ 57)
    (U : Nat) (hU : Hid (rd 0 D.data.toList = U)) (hU1 : 1 ≤ U) (hU2 : U ≤ 9223372036854775808) (w : World) :
    Calls Tryd.prog 8 #[.string s] w fun e w' => e = .returned (.tuple #[.bool true, .int .u64 U, .bool true]) ∧ w' = w := by
  obtain ⟨n0, n1, n2, n3, n4, n5, n6, n7, n8⟩ := h
  have hd12 : decide ((s.size : Int) < 12) = false := decide_eq_false (by omega)
  have hd0 : ((D.size : Int) == 0) = false := by rw [beq_eq_false_iff_ne]; omega
  have hd20 : decide ((20 : Int) < D.size) = false := decide_eq_false (by omega)
  go_enter Tryd.func8, Tryd.ntmps8
  go_wp2
  clear n0 n1 n2 n3 n4 n5 n6 n7 n8 hh hl hB
  go_loop [7, 8] (fun z i => ∃ (k : Nat) (a : Int), k ≤ D.size ∧ i = .int .i64 k ∧ z = .int .u64 a ∧ 0 ≤ a ∧ a ≤ 9223372036854775808 ∧ Hid (a = (rd 0 (D.data.toList.take k) : Nat))) (fun _ i => D.size - (intOf i).toNat)
  case atStart => exact ⟨0, 0, Nat.zero_le _, rfl, rfl, by omega, by omega, rfl⟩
  case round =>
    obtain ⟨k, a, hk, rfl, rfl, ha0, ha1, hra⟩ := hrel
    by_cases hlt : k < D.size
    · obtain ⟨c, hc⟩ : ∃ c : Int, ((D[k]'hlt).toNat : Int) = c := ⟨_, rfl⟩
      have hdk := hdig k hlt
      have hc1 : 48 ≤ c ∧ c ≤ 57 := by omega
      have hnx := step_rd D k hlt hdk.1
      have hle := rd_take_le D.data.toList (k + 1)
      have hUU := hU.out
      have hn : 0 ≤ a * 10 + (c - 48) ∧ a * 10 + (c - 48) ≤ 9223372036854775808 := by have := hra.out; omega
      have HN : Hid (a * 10 + (c - 48) = (rd 0 (D.data.toList.take (k + 1)) : Nat)) := by have := hra.out; show _ = _; omega
      clear hnx hle hUU hdk hdig hU
      go_wp2
      go_round
      case rel => exact ⟨k + 1, a * 10 + (c - 48), by omega, by go_num, rfl, hn.1, hn.2, HN⟩
      case measure => simp [intOf]; omega
    · have HA : Hid (a = (U : Nat)) := by have h1 := hra.out; rw [List.take_of_length_le (by simpa using (show D.size ≤ k by omega)), hU.out] at h1; exact h1
      have hz : (a == 0) = false := by have := HA.out; rw [beq_eq_false_iff_ne]; omega
      clear hdig
      go_wp2
      go_ret3
      exact ⟨tup3 HA.out, rfl⟩

set_option maxRecDepth 100000 in
set_option maxHeartbeats 2000000 in
theorem parse_pos (s : ByteArray) (h : noNames s) (h12 : 12 ≤ s.size) (h40 : s.size ≤ 40) (hh : ((s.extract 0 10).toList == [105, 110, 112, 117, 116, 84, 121, 112, 101, 40]) = true)
    (hl : ((s[s.size - 1]'(by omega)).toNat : Int) = 41) (D : ByteArray) (hB : s.extract 10 (s.size - 1) = D) (hB0 : 1 ≤ D.size) (hD45 : (((D[0]'(by omega)).toNat : Int) == 45) = false)
    (hD1 : 1 ≤ D.size) (hD20 : D.size ≤ 20) (hD0 : (((D[0]'(by omega)).toNat : Int) == 48) = false) (hdig : ∀ (k : Nat) (h : k < D.size), 48 ≤ (D[k]'h).toNat ∧ (D[k]'h).toNat ≤ 57)
    (U : Nat) (hU : Hid (rd 0 D.data.toList = U)) (hU1 : 9 ≤ U) (hU2 : U ≤ 9223372036854775808) (w : World) :
    Calls Tryd.prog 8 #[.string s] w fun e w' => e = .returned (.tuple #[.bool false, .int .u64 U, .bool true]) ∧ w' = w := by
  obtain ⟨n0, n1, n2, n3, n4, n5, n6, n7, n8⟩ := h
  have hd12 : decide ((s.size : Int) < 12) = false := decide_eq_false (by omega)
  have hd0 : ((D.size : Int) == 0) = false := by rw [beq_eq_false_iff_ne]; omega
  have hd20 : decide ((20 : Int) < D.size) = false := decide_eq_false (by omega)
  go_enter Tryd.func8, Tryd.ntmps8
  go_wp2
  clear n0 n1 n2 n3 n4 n5 n6 n7 n8 hh hl hB
  go_loop [7, 8] (fun z i => ∃ (k : Nat) (a : Int), k ≤ D.size ∧ i = .int .i64 k ∧ z = .int .u64 a ∧ 0 ≤ a ∧ a ≤ 9223372036854775808 ∧ Hid (a = (rd 0 (D.data.toList.take k) : Nat))) (fun _ i => D.size - (intOf i).toNat)
  case atStart => exact ⟨0, 0, Nat.zero_le _, rfl, rfl, by omega, by omega, rfl⟩
  case round =>
    obtain ⟨k, a, hk, rfl, rfl, ha0, ha1, hra⟩ := hrel
    by_cases hlt : k < D.size
    · obtain ⟨c, hc⟩ : ∃ c : Int, ((D[k]'hlt).toNat : Int) = c := ⟨_, rfl⟩
      have hdk := hdig k hlt
      have hc1 : 48 ≤ c ∧ c ≤ 57 := by omega
      have hnx := step_rd D k hlt hdk.1
      have hle := rd_take_le D.data.toList (k + 1)
      have hUU := hU.out
      have hn : 0 ≤ a * 10 + (c - 48) ∧ a * 10 + (c - 48) ≤ 9223372036854775808 := by have := hra.out; omega
      have HN : Hid (a * 10 + (c - 48) = (rd 0 (D.data.toList.take (k + 1)) : Nat)) := by have := hra.out; show _ = _; omega
      clear hnx hle hUU hdk hdig hU
      go_wp2
      go_round
      case rel => exact ⟨k + 1, a * 10 + (c - 48), by omega, by go_num, rfl, hn.1, hn.2, HN⟩
      case measure => simp [intOf]; omega
    · have HA : Hid (a = (U : Nat)) := by have h1 := hra.out; rw [List.take_of_length_le (by simpa using (show D.size ≤ k by omega)), hU.out] at h1; exact h1
      have hz : (a == 0) = false := by have := HA.out; rw [beq_eq_false_iff_ne]; omega
      have hz8 : decide (a ≤ 8) = false := decide_eq_false (by have := HA.out; omega)
      clear hdig
      go_wp2
      go_ret3
      exact ⟨tup3 HA.out, rfl⟩

end Go.Proofs.Qxb6602091aDoor
