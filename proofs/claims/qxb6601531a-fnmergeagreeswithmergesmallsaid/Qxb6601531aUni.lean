import Derived.Test.Qxb6601531aFind
import Derived.Test.Qxb6601531aMl
import Derived.Test.Qxb6601531aPb
import Derived.Deep.QuietTactic
import Derived.BigQuiet
import Derived.LaidEqlPtr
import Derived.Lib.Builder
namespace Go.Proofs.Qxb6601531a
open Go.RowKit

set_option maxHeartbeats 1000000 in
theorem sortedYes (b o n c : Nat) (hn : n ≤ 1048576) (f : Nat → ByteArray) (w : World) (hc : ∀ i, i < n → w.cell? ⟨b, o + i, none⟩ = some (.string (f i))) (hs : Hid (Sorted f n)) :
    Calls Try.prog 31 #[.slice (some ⟨b, o, none⟩) n c] w fun e w' => e = .returned (.bool true) ∧ ∃ m, w' = w.drewN m := by
  go_enter Try.func31, Try.ntmps31
  go_wp2
  go_loopw [3] (fun i wr => ∃ k : Nat, i = .int .i64 (k + 1) ∧ ∃ m, wr = w.drewN m) (fun i _ => n + 1 - (intOf i).toNat)
  case atStart => exact ⟨0, rfl, 0, rfl⟩
  case round =>
    obtain ⟨k, rfl, m, rfl⟩ := hrel
    by_cases hlt : k + 1 < n
    · have g1 := hc k (by omega)
      have g2 := hc (k + 1) hlt
      have hb := hs.out k hlt
      have i1 : (k : Int) < n := by omega
      have i2 : (k : Int) + 1 < n := by omega
      clear hc
      go_wp2
      go_quiet (fail)
      go_wp2
      go_roundw
      case rel => exact ⟨k + 1, by go_num, m + nq, rfl⟩
      case measure => simp [intOf]; omega
    · have hd : decide ((k : Int) + 1 < n) = false := by simp; omega
      go_wp2
      go_ret
      exact ⟨rfl, m, rfl⟩

theorem run_sameAddr_plain {P : Program} (w : World) {a b : Addr} (hne : a.block ≠ b.block) (ha : PlainB w a.block) (hb : (w.cell? b).isSome = true) : (sameAddr a b).run P w = .ok false w := by
  obtain ⟨ca, ta, ha⟩ := ha
  unfold World.cell? at hb
  split at hb
  · rename_i cb tb fr hb'
    have hz : ¬ cb.size = 0 := fun hz => by
      split at hb
      · simp at hb
      · simp [hz] at hb
    obtain ⟨k, hk⟩ : ∃ k, cb.size = k + 1 := ⟨cb.size - 1, by omega⟩
    obtain ⟨lo, hi⟩ := fr
    simp [sameAddr, hne, World.frozen?, ha, hb', noView, viewAt, World.shape?, mayBeOne, stringish, hk]
  · simp at hb

theorem run_eql_plain {P : Program} (w : World) {tp te : TypeId} {j : TypeInfo} {a b : Addr} (hp : P.underlying tp = some (.pointer te)) (hte : P.info? te = some j) (hsz : j.size ≠ 0) (hne : a.block ≠ b.block) (ha : PlainB w a.block) (hb : (w.cell? b).isSome = true) :
    (binOp .eql tp (.pointer (some a)) (.pointer (some b))).run P w = .ok (.bool false) w := by
  have h : ∀ d : Nat, (Op.equalIn (d + 1) tp (.pointer (some a)) (.pointer (some b))).run P w = .ok false w := fun d => by
    simp [Op.equalIn, run_underlying hp, sizeOf, typeInfo, hte, hsz, run_sameAddr_plain w hne ha hb]
  simp only [binOp]
  simp [Op.equal, Op.maxDepth, h 9999]

theorem run_sameAddr_plain' {P : Program} (w : World) {a b : Addr} (hne : a.block ≠ b.block) (ha : (w.cell? a).isSome = true) (hb : PlainB w b.block) : (sameAddr a b).run P w = .ok false w := by
  obtain ⟨ca, ta, hb⟩ := hb
  unfold World.cell? at ha
  split at ha
  · rename_i cb tb fr ha'
    have hz : ¬ cb.size = 0 := fun hz => by
      split at ha
      · simp at ha
      · simp [hz] at ha
    obtain ⟨k, hk⟩ : ∃ k, cb.size = k + 1 := ⟨cb.size - 1, by omega⟩
    obtain ⟨lo, hi⟩ := fr
    simp [sameAddr, hne, World.frozen?, hb, ha', noView, viewAt, World.shape?, mayBeOne, stringish, hk]
  · simp at ha

theorem run_neq_plain {P : Program} (w : World) {tp te : TypeId} {j : TypeInfo} {a b : Addr} (hp : P.underlying tp = some (.pointer te)) (hte : P.info? te = some j) (hsz : j.size ≠ 0) (hne : a.block ≠ b.block) (ha : (w.cell? a).isSome = true) (hb : PlainB w b.block) :
    (binOp .neq tp (.pointer (some a)) (.pointer (some b))).run P w = .ok (.bool true) w := by
  have h : ∀ d : Nat, (Op.equalIn (d + 1) tp (.pointer (some a)) (.pointer (some b))).run P w = .ok false w := fun d => by
    simp [Op.equalIn, run_underlying hp, sizeOf, typeInfo, hte, hsz, run_sameAddr_plain' w hne ha hb]
  simp only [binOp]
  simp [Op.equal, Op.maxDepth, h 9999]

theorem info_of {t : TypeId} {z : Option Value} {s b : Nat} (h : (Try.prog.info? t).map (fun i => (i.zero, i.size, i.bytes)) = some (z, s, b)) : ∃ j, Try.prog.info? t = some j ∧ j.size = s := by
  obtain ⟨j, hj, e⟩ := Option.map_eq_some_iff.1 h
  exact ⟨j, hj, (Prod.mk.inj (Prod.mk.inj e).2).1⟩

set_option maxRecDepth 100000 in
set_option maxHeartbeats 1000000 in
theorem sameSelf (b n c c2 : Nat) (hn : 0 < n) (w : World) : Calls Try.prog 20 #[.slice (some ⟨b, 0, none⟩) n c, .slice (some ⟨b, 0, none⟩) n c2] w fun e w' => e = .returned (.bool true) ∧ ∃ m, w' = w.drewN m := by
  have d1 : (0 : Int) < n := by omega
  have d2 : decide ((0 : Int) < n) = true := by simp; omega
  obtain ⟨j, hj, _⟩ := info_of Try.info9
  have hq : ∀ w, (binOp .eql 39 (.pointer (some ⟨b, 0, none⟩)) (.pointer (some ⟨b, 0, none⟩))).run Try.prog w = .ok (.bool true) w := fun w => run_eql_ptr_same w _ Try.underlying39 hj
  clear hj
  go_enter Try.func20, Try.ntmps20
  go_wp2_with fail
  go_quiet (fail)
  go_wp2
  go_ret
  exact ⟨rfl, _, rfl⟩

set_option maxRecDepth 100000 in
set_option maxHeartbeats 1000000 in
theorem sameAny (b n c b2 n2 c2 : Nat) (hn : 0 < n) (w : World) (hb : PlainB w b) (hb2 : (w.cell? ⟨b2, 0, none⟩).isSome = true) (hne : b ≠ b2) : Calls Try.prog 20 #[.slice (some ⟨b, 0, none⟩) n c, .slice (some ⟨b2, 0, none⟩) n2 c2] w fun e w' => e = .returned (.bool false) ∧ ∃ m, w' = w.drewN m := by
  obtain ⟨j, hj, hj1⟩ := info_of Try.info9
  have hq : ∀ t, (binOp .eql 39 (.pointer (some ⟨b, 0, none⟩)) (.pointer (some ⟨b2, 0, none⟩))).run Try.prog (w.drewN t) = .ok (.bool false) (w.drewN t) := fun t => run_eql_plain (w.drewN t) (a := ⟨b, 0, none⟩) (b := ⟨b2, 0, none⟩) Try.underlying39 hj (by rw [hj1]; decide) hne hb hb2
  clear hj hj1
  have d1 : (0 : Int) < n := by omega
  have d2 : decide ((0 : Int) < n) = true := by simp; omega
  by_cases h : n = n2
  · subst h
    go_enter Try.func20, Try.ntmps20
    go_wp2_with fail
    go_quiet (fail)
    go_wp2
    go_ret
    exact ⟨rfl, _, rfl⟩
  · have d : ((n : Int) == n2) = false := by simp; omega
    go_enter Try.func20, Try.ntmps20
    go_wp2_with fail
    go_quiet (fail)
    go_wp2
    go_ret
    exact ⟨rfl, _, rfl⟩
end Go.Proofs.Qxb6601531a
