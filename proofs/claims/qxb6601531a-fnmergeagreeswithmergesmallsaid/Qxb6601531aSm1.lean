import Derived.Test.Qxb6601531aPut
import Derived.Lib.Bytealg
import Derived.Deep.QuietTactic
import Derived.BigQuiet
namespace Go.Proofs.Qxb6601531a
open Go.RowKit

theorem compareBytes_eq : ∀ (a b : List UInt8), Lib.compareBytes a b = if a = b then 0 else if a < b then -1 else 1
  | [], [] => by simp [Lib.compareBytes]
  | [], _ :: _ => by simp [Lib.compareBytes]
  | _ :: _, [] => by simp [Lib.compareBytes]
  | x :: a, y :: b => by
    rw [Lib.compareBytes, compareBytes_eq a b]
    by_cases h1 : x < y
    · have h2 : x ≠ y := fun e => UInt8.lt_irrefl _ (e ▸ h1)
      simp [h1, h2, List.cons_lt_cons_iff]
    · by_cases h2 : y < x
      · have h3 : x ≠ y := fun e => UInt8.lt_irrefl _ (e ▸ h2)
        simp [h1, h2, h3, List.cons_lt_cons_iff]
      · have h3 : x = y := UInt8.le_antisymm (UInt8.not_lt.1 h2) (UInt8.not_lt.1 h1)
        subst h3
        simp

set_option maxRecDepth 100000 in
set_option maxHeartbeats 1000000 in
theorem compareString (a b : ByteArray) (w : World) :
    Calls Try.prog 40 #[.string a, .string b] w fun e w' => e = .returned (.int .i64 (Lib.compareBytes a.data.toList b.data.toList)) ∧ w' = w := by
  go_enter Try.func40, Try.ntmps40
  go_wp2
  rw [run_callFunc_extern Try.func42 (by kernel_rfl) (by kernel_rfl) (by kernel_rfl) (e := Extern.BytealgCompare.compare) (by kernel_rfl), Lib.run_compareString]
  simp only [Result.andThen]
  rw [Oper.upon_value]
  go_wp2
  go_ret
  exact ⟨rfl, rfl⟩

set_option maxHeartbeats 1000000 in
theorem strCompare (a b : ByteArray) (w : World) :
    Calls Try.prog 35 #[.string a, .string b] w fun e w' => e = .returned (.int .i64 (cmpI a b)) ∧ w' = w := by
  go_enter Try.func35, Try.ntmps35
  go_wp2_with fail
  refine (compareString a b _).mono ?_
  rintro e w' ⟨rfl, rfl⟩
  go_wp2
  go_ret
  refine ⟨?_, rfl⟩
  rw [compareBytes_eq, cmpI, ByteArray.toList_eq, ByteArray.toList_eq]
  rfl

theorem u64_in {x : Nat} (h : x < 18446744073709551616) : IntKind.u64.wrap (x : Int) = x := by
  rw [show IntKind.u64.wrap (x : Int) = (x : Int) % 18446744073709551616 from rfl]
  omega

theorem bits_and {x y : Nat} (hx : x < 18446744073709551616) (hy : y < 18446744073709551616) : bits .and .u64 (x : Int) (y : Int) = ((x &&& y : Nat) : Int) := by
  show IntKind.u64.wrap ((BitVec.ofInt 64 (x : Int) &&& BitVec.ofInt 64 (y : Int)).toNat : Int) = _
  rw [BitVec.toNat_and, BitVec.ofInt_natCast, BitVec.ofInt_natCast, BitVec.toNat_ofNat, BitVec.toNat_ofNat, Nat.mod_eq_of_lt hx, Nat.mod_eq_of_lt hy]
  exact u64_in (Nat.lt_of_le_of_lt Nat.and_le_left hx)

theorem bits_or {x s : Nat} (hx : x < 4611686018427387904) (hs : s < 4) : bits .or .u64 ((x : Int) * (4 : Int)) (s : Int) = ((4 * x + s : Nat) : Int) := by
  have e : (x : Int) * (4 : Int) = ((x <<< 2 : Nat) : Int) := by rw [Nat.shiftLeft_eq]; show _ = ((x * 4 : Nat) : Int); omega
  have h1 : x <<< 2 = x * 4 := by rw [Nat.shiftLeft_eq]
  rw [e]
  show IntKind.u64.wrap ((BitVec.ofInt 64 ((x <<< 2 : Nat) : Int) ||| BitVec.ofInt 64 (s : Int)).toNat : Int) = _
  rw [BitVec.toNat_or, BitVec.ofInt_natCast, BitVec.ofInt_natCast, BitVec.toNat_ofNat, BitVec.toNat_ofNat, Nat.mod_eq_of_lt (by omega), Nat.mod_eq_of_lt (by omega), ← Nat.shiftLeft_add_eq_or_of_lt (by omega : s < 2 ^ 2), u64_in (by omega), h1]
  omega

/-- Are the two ids the same? -/
def sid (a b : ByteArray) : Bool := decide (a.toList = b.toList)

set_option maxRecDepth 100000 in
set_option maxHeartbeats 2000000 in
theorem sameID (a b : ByteArray) (ha : a.size ≤ 9223372036854775807) (w : World) : Calls Try.prog 34 #[.string a, .string b] w fun e w' => e = .returned (.bool (sid a b)) ∧ ∃ m, w' = w.drewN m := by
  by_cases h : a.toList = b.toList
  · have hab : a = b := by
      rw [ByteArray.toList_eq, ByteArray.toList_eq] at h
      cases a; cases b; simp at h; rw [h]
    subst hab
    have hs : sid a a = true := by simp [sid]
    rw [hs]
    by_cases hz : a.size = 0
    · have d1 : ((a.size : Int) == 0) = true := by simp [hz]
      go_enter Try.func34, Try.ntmps34
      go_wp2_with fail
      go_quiet (fail)
      go_wp2
      go_ret
      exact ⟨rfl, _, rfl⟩
    · have d1 : ((a.size : Int) == 0) = false := by rw [beq_eq_false_iff_ne]; omega
      have d2 : (0 : Int) ≤ (a.size : Int) - 1 := by omega
      have d3 : (a.size : Int) - 1 < a.size := by omega
      have d4 : IntKind.i64.wrap ((a.size : Int) - 1) = (a.size : Int) - 1 := IntWalk.i64_in _ (by omega)
      obtain ⟨xa, hia⟩ : ∃ x : Int, ∀ w, (Instr.index 9 (.string a) (.int .i64 ((a.size : Int) - 1))).run Try.prog w = .ok (.int .u8 x) w := ⟨_, fun w => by rw [run_index_string w 9 a .i64 _ Try.underlying9, dif_pos ⟨by omega, by omega⟩]⟩
      clear d2 d3
      go_enter Try.func34, Try.ntmps34
      go_wp2_with fail
      go_quiet (fail)
      go_wp2
      go_ret
      exact ⟨rfl, _, rfl⟩
  · have hs : sid a b = false := by simp [sid, h]
    rw [hs]
    have hb : (a.toList == b.toList) = false := by simpa using h
    by_cases he : a.size = b.size
    · have d0 : ((a.size : Int) == (b.size : Int)) = true := by simp [he]
      by_cases hz : a.size = 0
      · have d1 : ((a.size : Int) == 0) = true := by simp [hz]
        clear he hz
        go_enter Try.func34, Try.ntmps34
        go_wp2_with fail
        go_quiet (fail)
        go_wp2
        go_ret
        exact ⟨rfl, _, rfl⟩
      · have d1 : ((a.size : Int) == 0) = false := by rw [beq_eq_false_iff_ne]; omega
        have d2 : (0 : Int) ≤ (a.size : Int) - 1 := by omega
        have d3 : (a.size : Int) - 1 < a.size := by omega
        have d4 : IntKind.i64.wrap ((a.size : Int) - 1) = (a.size : Int) - 1 := IntWalk.i64_in _ (by omega)
        have d5 : (0 : Int) ≤ (b.size : Int) - 1 := by omega
        have d6 : (b.size : Int) - 1 < b.size := by omega
        have d7 : IntKind.i64.wrap ((b.size : Int) - 1) = (b.size : Int) - 1 := IntWalk.i64_in _ (by omega)
        obtain ⟨xa, hia⟩ : ∃ x : Int, ∀ w, (Instr.index 9 (.string a) (.int .i64 ((a.size : Int) - 1))).run Try.prog w = .ok (.int .u8 x) w := ⟨_, fun w => by rw [run_index_string w 9 a .i64 _ Try.underlying9, dif_pos ⟨by omega, by omega⟩]⟩
        obtain ⟨xb, hib⟩ : ∃ x : Int, ∀ w, (Instr.index 9 (.string b) (.int .i64 ((b.size : Int) - 1))).run Try.prog w = .ok (.int .u8 x) w := ⟨_, fun w => by rw [run_index_string w 9 b .i64 _ Try.underlying9, dif_pos ⟨by omega, by omega⟩]⟩
        clear he hz d2 d3 d5 d6
        cases hx : (xa == xb)
        all_goals
          go_enter Try.func34, Try.ntmps34
          go_wp2_with fail
          go_quiet (fail)
          go_wp2
          go_ret
          exact ⟨rfl, _, rfl⟩
    · have d0 : ((a.size : Int) == (b.size : Int)) = false := by simp; omega
      go_enter Try.func34, Try.ntmps34
      go_wp2_with fail
      go_quiet (fail)
      go_wp2
      go_ret
      exact ⟨rfl, _, rfl⟩
end Go.Proofs.Qxb6601531a
