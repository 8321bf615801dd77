import Derived.Test.Qxb6601531aFind
namespace Go.Proofs.Qxb6601531a
open Go.RowKit

theorem isNaN46 (x : ByteArray) (w : World) : Calls Try.prog 46 #[.string x] w fun e w' => e = .returned (.bool false) ∧ w' = w := by
  go_enter Try.func46, Try.ntmps46
  go_wp2
  go_ret
  exact ⟨by simp, rfl⟩

theorem isNaN45 (x : ByteArray) (w : World) : Calls Try.prog 45 #[.string x] w fun e w' => e = .returned (.bool false) ∧ w' = w := by
  go_enter Try.func45, Try.ntmps45
  go_wp2
  go_ret
  exact ⟨by simp, rfl⟩

theorem less44 (x y : ByteArray) (w : World) : Calls Try.prog 44 #[.string x, .string y] w fun e w' => e = .returned (.bool (Op.bytesLess x.toList y.toList)) ∧ w' = w := by
  go_enter Try.func44, Try.ntmps44
  go_wp2_with (go_at_call 46; refine (isNaN46 _ _).mono ?_; rintro e w' ⟨rfl, rfl⟩)
  go_ret
  exact ⟨by simp, rfl⟩

/-- BinarySearch: some place k, all ahead of which is below id. -/
def BSR (f : Nat → ByteArray) (n : Nat) (x : ByteArray) (e : Ending) : Prop := ∃ (k : Nat) (b : Bool), e = .returned (.tuple #[.int .i64 k, .bool b]) ∧ k ≤ n ∧ ∀ i, i < k → (f i).toList < x.toList
theorem bsR {f : Nat → ByteArray} {n : Nat} {x : ByteArray} (k : Nat) (b : Bool) (h1 : k ≤ n) (h2 : ∀ i, i < k → (f i).toList < x.toList) : BSR f n x (.returned (.tuple #[.int .i64 k, .bool b])) := ⟨k, b, rfl, h1, h2⟩

set_option maxHeartbeats 1000000 in
theorem bsearch (a : Option Addr) (n c : Nat) (hn : n ≤ 1048576) (f : Nat → ByteArray) (x : ByteArray) (w : World) (hs : Hid (Sorted f n)) (hc : SA w a n f) :
    Calls Try.prog 43 #[.slice a n c, .string x] w fun e w' => BSR f n x e ∧ w' = w := by
  go_enter Try.func43, Try.ntmps43
  go_wp2
  go_loop [7, 8] (fun l h => ∃ lo hi : Nat, lo ≤ hi ∧ hi ≤ n ∧ l = .int .i64 lo ∧ h = .int .i64 hi ∧ Hid (∀ i, i < lo → (f i).toList < x.toList)) (fun l h => (intOf h - intOf l).toNat)
  case atStart => exact ⟨0, n, Nat.zero_le _, Nat.le_refl _, rfl, rfl, fun i hi => by omega⟩
  case round =>
    obtain ⟨lo, hi, h1, h2, rfl, rfl, h3⟩ := hrel
    by_cases hlt : lo < hi
    · obtain ⟨b, o, ha, hcc⟩ := hc (by omega)
      subst ha
      have g1 := hcc ((lo + hi) / 2) (by omega)
      have hm : (lo + hi) / 2 < n := by omega
      clear hc hcc
      go_wp2_with (go_at_call 44; refine (less44 _ _ _).mono ?_; rintro e w' ⟨rfl, rfl⟩)
      · go_round
        case rel =>
          have hb : Op.bytesLess (f ((lo + hi) / 2)).toList x.toList = true := by assumption
          refine ⟨(lo + hi) / 2 + 1, hi, by omega, by omega, by go_num, rfl, fun i hi' => ?_⟩
          by_cases e : i = (lo + hi) / 2
          · rw [e]; exact (less_iff _ _).1 hb
          · exact klt_trans (hs.out.lt (by omega) hm) ((less_iff _ _).1 hb)
        case measure => simp [intOf]; omega
      · go_round
        case rel => exact ⟨lo, (lo + hi) / 2, by omega, by omega, rfl, by go_num, h3⟩
        case measure => simp [intOf]; omega
    · have e : lo = hi := by omega
      subst e
      by_cases hl : lo < n
      · obtain ⟨b, o, ha, hcc⟩ := hc (by omega)
        subst ha
        have g1 := hcc lo hl
        clear hc hcc
        cases he : ((f lo).toList == x.toList) with
        | true =>
          go_wp2
          go_ret2
          exact ⟨bsR lo _ (by omega) h3.out, rfl⟩
        | false =>
          go_wp2_with (go_at_call 45; refine (isNaN45 _ _).mono ?_; rintro e w' ⟨rfl, rfl⟩)
          go_ret2
          exact ⟨bsR lo _ (by omega) h3.out, rfl⟩
      · have hd : decide ((lo : Int) < (n : Int)) = false := by simp; omega
        clear hc
        go_wp2
        go_ret2
        exact ⟨bsR lo _ (by omega) h3.out, rfl⟩

/-- seek, passRun: some place e behind from, all from there to e below id. -/
def RunR (f : Nat → ByteArray) (n k : Nat) (x : ByteArray) (e : Ending) : Prop := ∃ q : Nat, e = .returned (.int .i64 q) ∧ k < q ∧ q ≤ n ∧ ∀ i, k ≤ i → i < q → (f i).toList < x.toList
theorem runR {f : Nat → ByteArray} {n k : Nat} {x : ByteArray} (q : Nat) {v : Int} (hv : v = q) (h1 : k < q) (h2 : q ≤ n) (h3 : ∀ i, k ≤ i → i < q → (f i).toList < x.toList) : RunR f n k x (.returned (.int .i64 v)) := ⟨q, by rw [hv], h1, h2, h3⟩

theorem Sorted.shift {f : Nat → ByteArray} {n : Nat} (h : Sorted f n) (a m : Nat) (hm : a + m ≤ n) : Sorted (fun i => f (a + i)) m := fun i hi => h (a + i) (by omega)

theorem seek_fin {f : Nat → ByteArray} {n lo q : Nat} {x : ByteArray} (hs : Sorted f n) (h2 : lo < n) (h5 : (f lo).toList < x.toList) (hq : ∀ i, i < q → (f (lo + 1 + i)).toList < x.toList) : ∀ i, i < lo + 1 + q → (f i).toList < x.toList := by
  intro i hi
  by_cases h : i ≤ lo
  · by_cases e : i = lo
    · rw [e]; exact h5
    · exact klt_trans (hs.lt (by omega) h2) h5
  · have := hq (i - (lo + 1)) (by omega)
    rwa [show lo + 1 + (i - (lo + 1)) = i by omega] at this

set_option maxHeartbeats 1000000 in
theorem seek (b o n c : Nat) (hn : n ≤ 1048576) (hnc : n ≤ c) (f : Nat → ByteArray) (x : ByteArray) (k : Nat) (hk : k < n) (hx : Hid ((f k).toList < x.toList)) (w : World) (hs : Hid (Sorted f n)) (hc : ∀ i, i < n → w.cell? ⟨b, o + i, none⟩ = some (.string (f i))) :
    Calls Try.prog 41 #[.slice (some ⟨b, o, none⟩) n c, .int .i64 k, .string x] w fun e w' => RunR f n k x e ∧ w' = w := by
  go_enter Try.func41, Try.ntmps41
  go_wp2
  go_loop [7, 8] (fun l t => ∃ lo st : Nat, k ≤ lo ∧ lo < n ∧ 1 ≤ st ∧ st ≤ 2097152 ∧ l = .int .i64 lo ∧ t = .int .i64 st ∧ Hid ((f lo).toList < x.toList)) (fun l _ => n - (intOf l).toNat)
  case atStart => exact ⟨k, 1, Nat.le_refl _, hk, by omega, by omega, rfl, rfl, hx⟩
  case round =>
    obtain ⟨lo, st, h1, h2, h3, h4, rfl, rfl, h5⟩ := hrel
    by_cases hlt : lo + st < n
    · have g1 := hc (lo + st) hlt
      cases he : (Op.bytesLess (f (lo + st)).toList x.toList) with
      | true =>
        have HE : Hid ((f (lo + st)).toList < x.toList) := (less_iff _ _).1 he
        clear hc
        go_wp2
        go_round
        case rel => exact ⟨lo + st, st * 2, by omega, hlt, by omega, by omega, by go_num, by go_num, HE⟩
        case measure => simp [intOf]; omega
      | false =>
        go_wp2_with fail
        refine (bsearch _ _ _ (by omega) (fun i => f (lo + 1 + i)) x _ (hs.out.shift (lo + 1) _ (by omega)) (by intro hp; refine ⟨b, _, rfl, fun i hi => ?_⟩; first | omega | (have := hc (lo + 1 + i) (by omega); rwa [← Nat.add_assoc] at this))).mono ?_
        rintro e w' ⟨⟨q, bb, rfl, hq1, hq2⟩, rfl⟩
        have hfin := seek_fin hs.out h2 h5.out hq2
        clear hc
        go_wp2
        go_ret
        exact ⟨runR (lo + 1 + q) (by go_num) (by omega) (by omega) (fun i h6 h7 => hfin i h7), rfl⟩
    · have hlt' : decide ((lo : Int) + st < n) = false := by simp; omega
      go_wp2_with fail
      all_goals
        refine (bsearch _ _ _ (by omega) (fun i => f (lo + 1 + i)) x _ (hs.out.shift (lo + 1) _ (by omega)) (by intro hp; refine ⟨b, _, rfl, fun i hi => ?_⟩; first | omega | (have := hc (lo + 1 + i) (by omega); rwa [← Nat.add_assoc] at this))).mono ?_
        rintro e w' ⟨⟨q, bb, rfl, hq1, hq2⟩, rfl⟩
        have hfin := seek_fin hs.out h2 h5.out hq2
        clear hc
        go_wp2
        go_ret
        exact ⟨runR (lo + 1 + q) (by go_num) (by omega) (by omega) (fun i h6 h7 => hfin i h7), rfl⟩
end Go.Proofs.Qxb6601531a
