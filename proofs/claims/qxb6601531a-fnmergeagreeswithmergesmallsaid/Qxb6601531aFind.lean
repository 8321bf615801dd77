import Derived.Test.Qxb6601531aLeaf3
namespace Go.Proofs.Qxb6601531a
open Go.RowKit

theorem ret_int {k : IntKind} {a b : Int} (h : a = b) : Ending.returned (.int k a) = .returned (.int k b) := by rw [h]

theorem fnd_miss {f : Nat → ByteArray} {x : ByteArray} {n lo : Nat} (hs : Sorted f n) (_hl : lo < n) (h3 : ∀ i, i < lo → (f i).toList < x.toList) (h4 : ¬ (f lo).toList < x.toList) (hb : (f lo).toList ≠ x.toList) : fnd f x n = -1 := by
  refine fnd_none fun i hi e => ?_
  rcases Nat.lt_trichotomy i lo with k | k | k
  · exact klt_irrefl _ (e ▸ h3 i k)
  · exact hb (k ▸ e)
  · have := hs.lt k hi
    rw [e] at this
    exact h4 this

set_option maxHeartbeats 1000000 in
theorem find_any (b o n c : Nat) (hn : n ≤ 1048576) (f : Nat → ByteArray) (x : ByteArray) (w : World) (hs : Hid (Sorted f n)) (hc : ∀ i, i < n → w.cell? ⟨b, o + i, none⟩ = some (.string (f i))) :
    Calls Try.prog 32 #[.slice (some ⟨b, o, none⟩) n c, .string x] w fun e w' => e = .returned (.int .i64 (fnd f x n)) ∧ w' = w := by
  go_enter Try.func32, Try.ntmps32
  go_wp2
  go_loop [5, 6] (fun l h => ∃ lo hi : Nat, lo ≤ hi ∧ hi ≤ n ∧ l = .int .i64 lo ∧ h = .int .i64 hi ∧ Hid (∀ i, i < lo → (f i).toList < x.toList) ∧ Hid (∀ i, hi ≤ i → i < n → ¬ (f i).toList < x.toList)) (fun l h => (intOf h - intOf l).toNat)
  case atStart => exact ⟨0, n, Nat.zero_le _, Nat.le_refl _, rfl, rfl, fun i hi => by omega, fun i h1 h2 => by omega⟩
  case round =>
    obtain ⟨lo, hi, h1, h2, rfl, rfl, h3, h4⟩ := hrel
    by_cases hlt : lo < hi
    · have g1 := hc (lo + (hi - lo) / 2) (by omega)
      have hm : lo + (hi - lo) / 2 < n := by omega
      clear hc
      go_wp2
      · go_round
        case rel => 
          have hb : Op.bytesLess (f (lo + (hi - lo) / 2)).toList x.toList = true := by assumption
          refine ⟨lo + (hi - lo) / 2 + 1, hi, by omega, by omega, by go_num, rfl, fun i hi' => ?_, h4⟩
          by_cases e : i = lo + (hi - lo) / 2
          · rw [e]; exact (less_iff _ _).1 hb
          · exact klt_trans (hs.out.lt (by omega) hm) ((less_iff _ _).1 hb)
        case measure => simp [intOf]; omega
      · go_round
        case rel => 
          have hb : Op.bytesLess (f (lo + (hi - lo) / 2)).toList x.toList = false := by assumption
          refine ⟨lo, lo + (hi - lo) / 2, by omega, by omega, rfl, by go_num, h3, fun i h5 h6 h7 => ?_⟩
          by_cases e : i = lo + (hi - lo) / 2
          · rw [e] at h7; exact (less_not _ _).1 hb h7
          · exact (less_not _ _).1 hb (klt_trans (hs.out.lt (by omega) h6) h7)
        case measure => simp [intOf]; omega
    · have e : lo = hi := by omega
      subst e
      by_cases hl : lo < n
      · have g1 := hc lo hl
        clear hc
        go_wp2
        · have hb : ((f lo).toList == x.toList) = true := by assumption
          go_ret
          exact ⟨ret_int (fnd_some hs.out hl (eq_of_beq hb)).symm, rfl⟩
        · have hb : ((f lo).toList == x.toList) = false := by assumption
          go_ret
          exact ⟨ret_int (fnd_miss hs.out hl h3.out (h4.out lo (Nat.le_refl _) hl) (by simpa using hb)).symm, rfl⟩
      · have hd : decide ((lo : Int) < (n : Int)) = false := by simp; omega
        go_wp2
        go_ret
        exact ⟨ret_int (fnd_none fun i hi e => klt_irrefl _ (e ▸ h3.out i (by omega))).symm, rfl⟩
/-- Is every one of g 0 .. g (m-1) among f 0 .. f (n-1)? -/
def hasAll (f : Nat → ByteArray) (n : Nat) (g : Nat → ByteArray) : Nat → Bool
  | 0 => true
  | m + 1 => hasAll f n g m && decide (0 ≤ fnd f (g m) n)

theorem hasAll_iff {f : Nat → ByteArray} {n : Nat} {g : Nat → ByteArray} {m : Nat} : hasAll f n g m = true ↔ ∀ j, j < m → 0 ≤ fnd f (g j) n := by
  induction m with
  | zero => simp [hasAll]
  | succ m ih =>
    rw [hasAll, Bool.and_eq_true, ih, decide_eq_true_eq]
    constructor
    · rintro ⟨h1, h2⟩ j hj
      by_cases e : j = m
      · rw [e]; exact h2
      · exact h1 j (by omega)
    · intro h
      exact ⟨fun j hj => h j (by omega), h m (by omega)⟩

theorem hasAll_no {f : Nat → ByteArray} {n : Nat} {g : Nat → ByteArray} {m k : Nat} (hk : k < m) (h : fnd f (g k) n < 0) : hasAll f n g m = false := by
  cases e : hasAll f n g m with
  | false => rfl
  | true => have := hasAll_iff.1 e k hk; omega

set_option maxHeartbeats 1000000 in
theorem holdsAll (b o n c b2 o2 n2 c2 : Nat) (hn : n ≤ 1048576) (hn2 : n2 ≤ 1048576) (f g : Nat → ByteArray) (w : World) (hs : Hid (Sorted f n)) (hc : ∀ i, i < n → w.cell? ⟨b, o + i, none⟩ = some (.string (f i))) (hc2 : ∀ i, i < n2 → w.cell? ⟨b2, o2 + i, none⟩ = some (.string (g i))) :
    Calls Try.prog 18 #[.slice (some ⟨b, o, none⟩) n c, .slice (some ⟨b2, o2, none⟩) n2 c2] w fun e w' => e = .returned (.bool (hasAll f n g n2)) ∧ w' = w := by
  go_enter Try.func18, Try.ntmps18
  go_wp2
  go_loop [5] (fun i => ∃ k : Nat, k ≤ n2 ∧ i = .int .i64 k ∧ Hid (hasAll f n g k = true)) (fun i => n2 - (intOf i).toNat)
  case atStart => exact ⟨0, Nat.zero_le _, rfl, rfl⟩
  case round =>
    obtain ⟨k, hk, rfl, hh⟩ := hrel
    by_cases hlt : k < n2
    · have g1 := hc2 k hlt
      go_wp2_with (go_at_call 32; refine (find_any b o n c hn f _ _ hs hc).mono ?_; rintro e w' ⟨rfl, rfl⟩)
      · have hb : fnd f (g k) n < 0 := by assumption
        go_ret
        exact ⟨by rw [hasAll_no hlt hb]; rfl, rfl⟩
      · have hb : 0 ≤ fnd f (g k) n := by first | assumption | omega
        go_round
        case rel => exact ⟨k + 1, by omega, by go_num, by show hasAll f n g (k + 1) = true; rw [hasAll, hh.out]; simpa using hb⟩
        case measure => simp [intOf]; omega
    · go_wp2
      go_ret
      exact ⟨by rw [show n2 = k by omega, hh.out]; rfl, rfl⟩
end Go.Proofs.Qxb6601531a
