import Derived.Test.Qxb6601531aPut
namespace Go.Proofs.Qxb6601531a
open Go.RowKit

/-! ### The same searches, their answers told as plain functions -/
def bsF (f : Nat → ByteArray) (x : ByteArray) : Nat → Nat → Nat → Nat
  | 0, lo, _ => lo
  | F + 1, lo, hi => if lo < hi then (if Op.bytesLess (f ((lo + hi) / 2)).toList x.toList = true then bsF f x F ((lo + hi) / 2 + 1) hi else bsF f x F lo ((lo + hi) / 2)) else lo
def skF (f : Nat → ByteArray) (x : ByteArray) (n : Nat) : Nat → Nat → Nat → Nat
  | 0, lo, _ => lo + 1
  | F + 1, lo, st => if lo + st < n ∧ Op.bytesLess (f (lo + st)).toList x.toList = true then skF f x n F (lo + st) (st * 2) else lo + 1 + bsF (fun i => f (lo + 1 + i)) x n 0 (min (lo + st) n - (lo + 1))
def pr (f : Nat → ByteArray) (x : ByteArray) (n k : Nat) (r : Bool) : Nat := if r = true then skF f x n n k 1 else k + 1

theorem bsF_spec {f : Nat → ByteArray} {x : ByteArray} {n : Nat} (hs : Sorted f n) : ∀ (F lo hi : Nat), lo ≤ hi → hi ≤ n → hi - lo ≤ F → (∀ i, i < lo → (f i).toList < x.toList) → bsF f x F lo hi ≤ hi ∧ ∀ i, i < bsF f x F lo hi → (f i).toList < x.toList
  | 0, lo, hi, h1, _, _, h4 => ⟨h1, h4⟩
  | F + 1, lo, hi, h1, h2, h3, h4 => by
    rw [bsF]
    by_cases hlt : lo < hi
    · rw [if_pos hlt]
      by_cases hb : Op.bytesLess (f ((lo + hi) / 2)).toList x.toList = true
      · rw [if_pos hb]
        refine bsF_spec hs F _ _ (by omega) h2 (by omega) (fun i hi' => ?_)
        by_cases e : i = (lo + hi) / 2
        · rw [e]; exact (less_iff _ _).1 hb
        · exact klt_trans (hs.lt (by omega) (by omega)) ((less_iff _ _).1 hb)
      · rw [if_neg hb]
        have := bsF_spec hs F lo ((lo + hi) / 2) (by omega) (by omega) (by omega) h4
        exact ⟨by omega, this.2⟩
    · rw [if_neg hlt]; exact ⟨h1, h4⟩

theorem skF_spec {f : Nat → ByteArray} {x : ByteArray} {n : Nat} (hs : Sorted f n) : ∀ (F lo st : Nat), lo < n → 1 ≤ st → n - lo ≤ F → (f lo).toList < x.toList → lo < skF f x n F lo st ∧ skF f x n F lo st ≤ n ∧ ∀ i, i < skF f x n F lo st → (f i).toList < x.toList
  | 0, lo, st, h1, _, h3, h4 => by omega
  | F + 1, lo, st, h1, h2, h3, h4 => by
    rw [skF]
    by_cases hc : lo + st < n ∧ Op.bytesLess (f (lo + st)).toList x.toList = true
    · rw [if_pos hc]
      have := skF_spec hs F (lo + st) (st * 2) hc.1 (by omega) (by omega) ((less_iff _ _).1 hc.2)
      exact ⟨by omega, this.2⟩
    · rw [if_neg hc]
      have := bsF_spec (f := fun i => f (lo + 1 + i)) (x := x) (n := min (lo + st) n - (lo + 1)) (hs.shift (lo + 1) _ (by omega)) n 0 (min (lo + st) n - (lo + 1)) (Nat.zero_le _) (Nat.le_refl _) (by omega) (fun i hi => by omega)
      exact ⟨by omega, by omega, seek_fin hs h1 h4 this.2⟩

theorem pr_spec {f : Nat → ByteArray} {x : ByteArray} {n k : Nat} (hs : Sorted f n) (hk : k < n) (hx : (f k).toList < x.toList) (r : Bool) : k < pr f x n k r ∧ pr f x n k r ≤ n ∧ ∀ i, k ≤ i → i < pr f x n k r → (f i).toList < x.toList := by
  unfold pr
  cases r with
  | true => have := skF_spec hs n k 1 hk (by omega) (by omega) hx; exact ⟨this.1, this.2.1, fun i _ h => this.2.2 i h⟩
  | false => exact ⟨by simp, by simp; omega, fun i h1 h2 => by simp at h2; rw [show i = k by omega]; exact hx⟩

theorem bsF_le (f : Nat → ByteArray) (x : ByteArray) : ∀ (F lo hi : Nat), lo ≤ hi → bsF f x F lo hi ≤ hi
  | 0, lo, hi, h => h
  | F + 1, lo, hi, h => by
    rw [bsF]
    by_cases hlt : lo < hi
    · rw [if_pos hlt]
      by_cases hb : Op.bytesLess (f ((lo + hi) / 2)).toList x.toList = true
      · rw [if_pos hb]; exact bsF_le f x F _ _ (by omega)
      · rw [if_neg hb]; have := bsF_le f x F lo ((lo + hi) / 2) (by omega); omega
    · rw [if_neg hlt]; exact h

/-- BinarySearch's place, told; of its bool nothing. -/
def BSF (k : Nat) (e : Ending) : Prop := ∃ b : Bool, e = .returned (.tuple #[.int .i64 k, .bool b])
theorem bsf {k k' : Nat} (b : Bool) (h : k' = k) : BSF k (.returned (.tuple #[.int .i64 k', .bool b])) := ⟨b, by rw [h]⟩

theorem bsF_stop {f : Nat → ByteArray} {x : ByteArray} {F lo : Nat} : bsF f x F lo lo = lo := by cases F <;> simp [bsF]

set_option maxHeartbeats 1000000 in
theorem bsearchF (a : Option Addr) (n c F : Nat) (hn : n ≤ 1048576) (hF : n ≤ F) (f : Nat → ByteArray) (x : ByteArray) (w : World) (hc : SA w a n f) :
    Calls Try.prog 43 #[.slice a n c, .string x] w fun e w' => BSF (bsF f x F 0 n) e ∧ w' = w := by
  obtain ⟨R, hR⟩ : ∃ R, R = bsF f x F 0 n := ⟨_, rfl⟩
  have HR : Hid (R = bsF f x F 0 n) := hR
  rw [← hR]
  clear hR
  go_enter Try.func43, Try.ntmps43
  go_wp2
  go_loop [7, 8] (fun l h => ∃ lo hi G : Nat, lo ≤ hi ∧ hi ≤ n ∧ hi - lo ≤ G ∧ l = .int .i64 lo ∧ h = .int .i64 hi ∧ Hid (R = bsF f x G lo hi)) (fun l h => (intOf h - intOf l).toNat)
  case atStart => exact ⟨0, n, F, Nat.zero_le _, Nat.le_refl _, hF, rfl, rfl, HR⟩
  case round =>
    obtain ⟨lo, hi, G, h1, h2, h4, rfl, rfl, h3⟩ := hrel
    by_cases hlt : lo < hi
    · obtain ⟨b, o, ha, hcc⟩ := hc (by omega)
      subst ha
      have g1 := hcc ((lo + hi) / 2) (by omega)
      obtain ⟨G, rfl⟩ : ∃ G', G = G' + 1 := ⟨G - 1, by omega⟩
      have h3' : Hid (R = if Op.bytesLess (f ((lo + hi) / 2)).toList x.toList = true then bsF f x G ((lo + hi) / 2 + 1) hi else bsF f x G lo ((lo + hi) / 2)) := by
        have := h3.out
        rw [bsF, if_pos hlt] at this
        exact this
      clear hc hcc h3 HR
      go_wp2_with (go_at_call 44; refine (less44 _ _ _).mono ?_; rintro e w' ⟨rfl, rfl⟩)
      · go_round
        case rel =>
          have hb : Op.bytesLess (f ((lo + hi) / 2)).toList x.toList = true := by assumption
          exact ⟨(lo + hi) / 2 + 1, hi, G, by omega, by omega, by omega, by go_num, rfl, by have := h3'.out; rw [if_pos hb] at this; exact this⟩
        case measure => simp [intOf]; omega
      · go_round
        case rel =>
          have hb : Op.bytesLess (f ((lo + hi) / 2)).toList x.toList = false := by assumption
          exact ⟨lo, (lo + hi) / 2, G, by omega, by omega, by omega, rfl, by go_num, by have := h3'.out; rw [hb] at this; exact this⟩
        case measure => simp [intOf]; omega
    · have e : lo = hi := by omega
      subst e
      have hl0 : lo = R := by have := h3.out; rw [bsF_stop] at this; exact this.symm
      have HL : Hid (lo = R) := hl0
      clear hl0 h3 HR
      by_cases hl : lo < n
      · obtain ⟨b, o, ha, hcc⟩ := hc (by omega)
        subst ha
        have g1 := hcc lo hl
        clear hc hcc
        cases he : ((f lo).toList == x.toList) with
        | true =>
          go_wp2
          go_ret2
          exact ⟨bsf _ HL.out, rfl⟩
        | false =>
          go_wp2_with (go_at_call 45; refine (isNaN45 _ _).mono ?_; rintro e w' ⟨rfl, rfl⟩)
          go_ret2
          exact ⟨bsf _ HL.out, rfl⟩
      · have hd : decide ((lo : Int) < (n : Int)) = false := by simp; omega
        clear hc
        go_wp2
        go_ret2
        exact ⟨bsf _ HL.out, rfl⟩

set_option maxHeartbeats 1000000 in
theorem seekF (b o n c : Nat) (hn : n ≤ 1048576) (hnc : n ≤ c) (f : Nat → ByteArray) (x : ByteArray) (k : Nat) (hk : k < n) (w : World) (hc : ∀ i, i < n → w.cell? ⟨b, o + i, none⟩ = some (.string (f i))) :
    Calls Try.prog 41 #[.slice (some ⟨b, o, none⟩) n c, .int .i64 k, .string x] w fun e w' => e = .returned (.int .i64 (skF f x n n k 1 : Nat)) ∧ w' = w := by
  obtain ⟨R, hR⟩ : ∃ R, R = skF f x n n k 1 := ⟨_, rfl⟩
  have HR : Hid (R = skF f x n n k 1) := hR
  rw [← hR]
  clear hR
  go_enter Try.func41, Try.ntmps41
  go_wp2
  go_loop [7, 8] (fun l t => ∃ lo st G : Nat, lo < n ∧ 1 ≤ st ∧ st ≤ 2097152 ∧ n - lo ≤ G ∧ l = .int .i64 lo ∧ t = .int .i64 st ∧ Hid (R = skF f x n G lo st)) (fun l _ => n - (intOf l).toNat)
  case atStart => exact ⟨k, 1, n, hk, by omega, by omega, by omega, rfl, rfl, HR⟩
  case round =>
    obtain ⟨lo, st, G, h2, h3, h4, h6, rfl, rfl, h5⟩ := hrel
    obtain ⟨G, rfl⟩ : ∃ G', G = G' + 1 := ⟨G - 1, by omega⟩
    clear HR
    by_cases hlt : lo + st < n
    · have g1 := hc (lo + st) hlt
      cases he : (Op.bytesLess (f (lo + st)).toList x.toList) with
      | true =>
        have HE : Hid (R = skF f x n G (lo + st) (st * 2)) := by have := h5.out; rw [skF, if_pos ⟨hlt, he⟩] at this; exact this
        clear hc h5
        go_wp2
        go_round
        case rel => exact ⟨lo + st, st * 2, G, hlt, by omega, by omega, by omega, by go_num, by go_num, HE⟩
        case measure => simp [intOf]; omega
      | false =>
        have HE : Hid (R = lo + 1 + bsF (fun i => f (lo + 1 + i)) x n 0 (lo + st - (lo + 1))) := by
          have := h5.out
          rw [skF, if_neg (by rw [he]; simp), Nat.min_eq_left (by omega)] at this
          exact this
        clear h5
        go_wp2_with fail
        refine (bsearchF _ _ _ n (by omega) (by omega) (fun i => f (lo + 1 + i)) x _ (by intro hp; refine ⟨b, _, rfl, fun i hi => ?_⟩; first | omega | (have := hc (lo + 1 + i) (by omega); rwa [← Nat.add_assoc] at this))).mono ?_
        rintro e w' ⟨⟨bb, rfl⟩, rfl⟩
        have hb := bsF_le (fun i => f (lo + 1 + i)) x n 0 (lo + st - (lo + 1)) (Nat.zero_le _)
        clear hc
        go_wp2
        go_ret
        exact ⟨ret_int (by rw [HE.out]; go_num), rfl⟩
    · have hlt' : decide ((lo : Int) + st < n) = false := by simp; omega
      have HE : Hid (R = lo + 1 + bsF (fun i => f (lo + 1 + i)) x n 0 (n - (lo + 1))) := by
        have := h5.out
        rw [skF, if_neg (by omega), Nat.min_eq_right (by omega)] at this
        exact this
      clear h5
      go_wp2_with fail
      all_goals
        refine (bsearchF _ _ _ n (by omega) (by omega) (fun i => f (lo + 1 + i)) x _ (by intro hp; refine ⟨b, _, rfl, fun i hi => ?_⟩; first | omega | (have := hc (lo + 1 + i) (by omega); rwa [← Nat.add_assoc] at this))).mono ?_
        rintro e w' ⟨⟨bb, rfl⟩, rfl⟩
        have hb := bsF_le (fun i => f (lo + 1 + i)) x n 0 (n - (lo + 1)) (Nat.zero_le _)
        have E1 : Hid ((lo : Int) + st = n ∨ n < lo + st) := by show _ ∨ _; omega
        try rw [show ((lo : Int) + st).toNat - (lo + 1) = n - (lo + 1) by omega]
        clear hc
        go_wp2
        go_ret
        exact ⟨ret_int (by rw [HE.out]; go_num), rfl⟩

set_option maxHeartbeats 1000000 in
theorem passRunF (b o n c : Nat) (hn : n ≤ 1048576) (hnc : n ≤ c) (f : Nat → ByteArray) (x : ByteArray) (k : Nat) (hk : k < n) (r : Bool) (w : World) (hc : ∀ i, i < n → w.cell? ⟨b, o + i, none⟩ = some (.string (f i))) :
    Calls Try.prog 38 #[.slice (some ⟨b, o, none⟩) n c, .int .i64 k, .string x, .bool r] w fun e w' => e = .returned (.int .i64 (pr f x n k r : Nat)) ∧ w' = w := by
  unfold pr
  cases r with
  | true =>
    go_enter Try.func38, Try.ntmps38
    go_wp2_with fail
    refine (seekF b o n c hn hnc f x k hk _ hc).mono ?_
    rintro e w' ⟨rfl, rfl⟩
    go_wp2
    go_ret
    exact ⟨rfl, rfl⟩
  | false =>
    clear hc
    go_enter Try.func38, Try.ntmps38
    go_wp2
    go_ret
    exact ⟨ret_int (by simp), rfl⟩
end Go.Proofs.Qxb6601531a
