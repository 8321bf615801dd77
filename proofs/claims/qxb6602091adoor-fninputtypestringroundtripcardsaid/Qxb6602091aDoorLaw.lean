import Derived.Test.Qxb6602091aDoorWalk
import Derived.Lib.Strings
namespace Go.Proofs.Qxb6602091aDoor
open Go.RowKit

/-! ### What a text made so reads as -/
theorem app_list (a b : ByteArray) : (a ++ b).data.toList = a.data.toList ++ b.data.toList := by simp

/-- The text of a value without a name: the head, the numeral's bytes, a bracket. -/
def txt (l : List UInt8) : ByteArray := ((⟨#[105, 110, 112, 117, 116, 84, 121, 112, 101, 40]⟩ : ByteArray) ++ ⟨l.toArray⟩) ++ ⟨#[41]⟩

theorem txt_list (l : List UInt8) : (txt l).data.toList = [105, 110, 112, 117, 116, 84, 121, 112, 101, 40] ++ l ++ [41] := by
  unfold txt; rw [app_list, app_list]

theorem txt_size (l : List UInt8) : (txt l).size = l.length + 11 := by
  rw [Lib.size_eq, txt_list]; simp

theorem ba_ext {a b : ByteArray} (h : a.data.toList = b.data.toList) : a = b := by
  cases a; cases b; simp at h; rw [h]

theorem txt_body (l : List UInt8) : (txt l).extract 10 ((txt l).size - 1) = ⟨l.toArray⟩ := by
  apply ba_ext
  rw [Lib.extract_data, txt_list, txt_size]
  simp

theorem txt_head (l : List UInt8) : (((txt l).extract 0 10).toList == [105, 110, 112, 117, 116, 84, 121, 112, 101, 40]) = true := by
  rw [Lib.toList_data, Lib.extract_data, txt_list]
  simp

theorem txt_last (l : List UInt8) (h : (txt l).size - 1 < (txt l).size) : (((txt l)[(txt l).size - 1]'h).toNat : Int) = 41 := by
  have h2 : (txt l).size - 1 < (txt l).data.toList.length := by rw [← Lib.size_eq]; exact h
  have e : (txt l)[(txt l).size - 1]'h = (txt l).data.toList[(txt l).size - 1]'h2 := rfl
  have e2 : (txt l).data.toList[(txt l).size - 1]? = some 41 := by
    rw [txt_list, txt_size, List.getElem?_append_right (by simp)]
    simp
  rw [e, (List.getElem_eq_iff h2).2 e2]
  rfl

theorem ne_list {a b : List UInt8} (h : a.length ≠ b.length ∨ a.head? ≠ b.head?) : (a == b) = false := by
  rw [beq_eq_false_iff_ne]
  rintro rfl
  rcases h with h | h <;> exact h rfl

theorem txt_noNames (l : List UInt8) : noNames (txt l) := by
  unfold noNames
  rw [Lib.toList_data, txt_list]
  refine ⟨?_, ?_, ?_, ?_, ?_, ?_, ?_, ?_, ?_⟩ <;> exact ne_list (.inr (by simp))

theorem arr_get (l : List UInt8) (k : Nat) (h : k < (⟨l.toArray⟩ : ByteArray).size) : (⟨l.toArray⟩ : ByteArray)[k]'h = l[k]'(by simpa [ByteArray.size] using h) := rfl

set_option maxHeartbeats 1000000 in
theorem same_neg (t m : Int) (ht : t < 0) (hlo : -9223372036854775808 ≤ t) (hm : Hid (m = -t)) (w : World) :
    Calls Tryd.prog 9 #[.int .i64 t, .bool true, .int .u64 m] w fun e w' => e = .returned (.bool true) ∧ w' = w := by
  have heq : (-(t + 1) + 1 == m) = true := by rw [hm.out, beq_iff_eq]; omega
  go_enter Tryd.func9, Tryd.ntmps9
  go_wp2
  go_ret
  exact ⟨rfl, rfl⟩

set_option maxHeartbeats 1000000 in
theorem same_pos (t : Int) (ht : 0 ≤ t) (hhi : t ≤ 9223372036854775807) (w : World) :
    Calls Tryd.prog 9 #[.int .i64 t, .bool false, .int .u64 t] w fun e w' => e = .returned (.bool true) ∧ w' = w := by
  go_enter Tryd.func9, Tryd.ntmps9
  go_wp2
  go_ret
  exact ⟨by simp, rfl⟩

set_option maxHeartbeats 1000000 in
theorem z7 (t : Int) (r : ByteArray) (w : World) (h : Calls Tryd.prog 16 #[.int .i64 t] w fun e w' => e = .returned (.string r) ∧ Below w.heap.size w w') :
    Calls Tryd.prog 7 #[.int .i64 t] w fun e w' => e = .returned (.string r) ∧ Below w.heap.size w w' := by
  go_enter Tryd.func7, Tryd.ntmps7
  go_wp2_with fail
  refine h.mono ?_
  rintro e w' ⟨rfl, hb⟩
  go_wp2
  go_ret
  exact ⟨rfl, hb⟩

set_option maxHeartbeats 1000000 in
theorem law0 (w : World) : Calls Tryd.prog 3 #[.int .i64 0] w fun e w' => e = .returned (.bool true) ∧ Below w.heap.size w w' := by
  go_enter Tryd.func3, Tryd.ntmps3
  go_wp2_with (go_at_call 7; refine (z7 0 (nameOf 0) w ((str0 w).mono fun _ _ h => ⟨h.1, h.2 ▸ Below.refl _ _⟩)).mono ?_)
  rintro e w1 ⟨rfl, hb⟩
  go_wp2_with fail
  refine (parse0 _).mono ?_
  rintro e w2 ⟨rfl, rfl⟩
  go_wp2_with fail
  refine (same_pos 0 (by omega) (by omega) _).mono ?_
  rintro e w3 ⟨rfl, rfl⟩
  go_wp2
  go_ret
  exact ⟨rfl, hb⟩

set_option maxHeartbeats 1000000 in
theorem law1 (w : World) : Calls Tryd.prog 3 #[.int .i64 1] w fun e w' => e = .returned (.bool true) ∧ Below w.heap.size w w' := by
  go_enter Tryd.func3, Tryd.ntmps3
  go_wp2_with (go_at_call 7; refine (z7 1 (nameOf 1) w ((str1 w).mono fun _ _ h => ⟨h.1, h.2 ▸ Below.refl _ _⟩)).mono ?_)
  rintro e w1 ⟨rfl, hb⟩
  go_wp2_with fail
  refine (parse1 _).mono ?_
  rintro e w2 ⟨rfl, rfl⟩
  go_wp2_with fail
  refine (same_pos 1 (by omega) (by omega) _).mono ?_
  rintro e w3 ⟨rfl, rfl⟩
  go_wp2
  go_ret
  exact ⟨rfl, hb⟩

set_option maxHeartbeats 1000000 in
theorem law2 (w : World) : Calls Tryd.prog 3 #[.int .i64 2] w fun e w' => e = .returned (.bool true) ∧ Below w.heap.size w w' := by
  go_enter Tryd.func3, Tryd.ntmps3
  go_wp2_with (go_at_call 7; refine (z7 2 (nameOf 2) w ((str2 w).mono fun _ _ h => ⟨h.1, h.2 ▸ Below.refl _ _⟩)).mono ?_)
  rintro e w1 ⟨rfl, hb⟩
  go_wp2_with fail
  refine (parse2 _).mono ?_
  rintro e w2 ⟨rfl, rfl⟩
  go_wp2_with fail
  refine (same_pos 2 (by omega) (by omega) _).mono ?_
  rintro e w3 ⟨rfl, rfl⟩
  go_wp2
  go_ret
  exact ⟨rfl, hb⟩

set_option maxHeartbeats 1000000 in
theorem law3 (w : World) : Calls Tryd.prog 3 #[.int .i64 3] w fun e w' => e = .returned (.bool true) ∧ Below w.heap.size w w' := by
  go_enter Tryd.func3, Tryd.ntmps3
  go_wp2_with (go_at_call 7; refine (z7 3 (nameOf 3) w ((str3 w).mono fun _ _ h => ⟨h.1, h.2 ▸ Below.refl _ _⟩)).mono ?_)
  rintro e w1 ⟨rfl, hb⟩
  go_wp2_with fail
  refine (parse3 _).mono ?_
  rintro e w2 ⟨rfl, rfl⟩
  go_wp2_with fail
  refine (same_pos 3 (by omega) (by omega) _).mono ?_
  rintro e w3 ⟨rfl, rfl⟩
  go_wp2
  go_ret
  exact ⟨rfl, hb⟩

set_option maxHeartbeats 1000000 in
theorem law4 (w : World) : Calls Tryd.prog 3 #[.int .i64 4] w fun e w' => e = .returned (.bool true) ∧ Below w.heap.size w w' := by
  go_enter Tryd.func3, Tryd.ntmps3
  go_wp2_with (go_at_call 7; refine (z7 4 (nameOf 4) w ((str4 w).mono fun _ _ h => ⟨h.1, h.2 ▸ Below.refl _ _⟩)).mono ?_)
  rintro e w1 ⟨rfl, hb⟩
  go_wp2_with fail
  refine (parse4 _).mono ?_
  rintro e w2 ⟨rfl, rfl⟩
  go_wp2_with fail
  refine (same_pos 4 (by omega) (by omega) _).mono ?_
  rintro e w3 ⟨rfl, rfl⟩
  go_wp2
  go_ret
  exact ⟨rfl, hb⟩

set_option maxHeartbeats 1000000 in
theorem law5 (w : World) : Calls Tryd.prog 3 #[.int .i64 5] w fun e w' => e = .returned (.bool true) ∧ Below w.heap.size w w' := by
  go_enter Tryd.func3, Tryd.ntmps3
  go_wp2_with (go_at_call 7; refine (z7 5 (nameOf 5) w ((str5 w).mono fun _ _ h => ⟨h.1, h.2 ▸ Below.refl _ _⟩)).mono ?_)
  rintro e w1 ⟨rfl, hb⟩
  go_wp2_with fail
  refine (parse5 _).mono ?_
  rintro e w2 ⟨rfl, rfl⟩
  go_wp2_with fail
  refine (same_pos 5 (by omega) (by omega) _).mono ?_
  rintro e w3 ⟨rfl, rfl⟩
  go_wp2
  go_ret
  exact ⟨rfl, hb⟩

set_option maxHeartbeats 1000000 in
theorem law6 (w : World) : Calls Tryd.prog 3 #[.int .i64 6] w fun e w' => e = .returned (.bool true) ∧ Below w.heap.size w w' := by
  go_enter Tryd.func3, Tryd.ntmps3
  go_wp2_with (go_at_call 7; refine (z7 6 (nameOf 6) w ((str6 w).mono fun _ _ h => ⟨h.1, h.2 ▸ Below.refl _ _⟩)).mono ?_)
  rintro e w1 ⟨rfl, hb⟩
  go_wp2_with fail
  refine (parse6 _).mono ?_
  rintro e w2 ⟨rfl, rfl⟩
  go_wp2_with fail
  refine (same_pos 6 (by omega) (by omega) _).mono ?_
  rintro e w3 ⟨rfl, rfl⟩
  go_wp2
  go_ret
  exact ⟨rfl, hb⟩

set_option maxHeartbeats 1000000 in
theorem law7 (w : World) : Calls Tryd.prog 3 #[.int .i64 7] w fun e w' => e = .returned (.bool true) ∧ Below w.heap.size w w' := by
  go_enter Tryd.func3, Tryd.ntmps3
  go_wp2_with (go_at_call 7; refine (z7 7 (nameOf 7) w ((str7 w).mono fun _ _ h => ⟨h.1, h.2 ▸ Below.refl _ _⟩)).mono ?_)
  rintro e w1 ⟨rfl, hb⟩
  go_wp2_with fail
  refine (parse7 _).mono ?_
  rintro e w2 ⟨rfl, rfl⟩
  go_wp2_with fail
  refine (same_pos 7 (by omega) (by omega) _).mono ?_
  rintro e w3 ⟨rfl, rfl⟩
  go_wp2
  go_ret
  exact ⟨rfl, hb⟩

set_option maxHeartbeats 1000000 in
theorem law8 (w : World) : Calls Tryd.prog 3 #[.int .i64 8] w fun e w' => e = .returned (.bool true) ∧ Below w.heap.size w w' := by
  go_enter Tryd.func3, Tryd.ntmps3
  go_wp2_with (go_at_call 7; refine (z7 8 (nameOf 8) w ((str8 w).mono fun _ _ h => ⟨h.1, h.2 ▸ Below.refl _ _⟩)).mono ?_)
  rintro e w1 ⟨rfl, hb⟩
  go_wp2_with fail
  refine (parse8 _).mono ?_
  rintro e w2 ⟨rfl, rfl⟩
  go_wp2_with fail
  refine (same_pos 8 (by omega) (by omega) _).mono ?_
  rintro e w3 ⟨rfl, rfl⟩
  go_wp2
  go_ret
  exact ⟨rfl, hb⟩

set_option maxHeartbeats 1000000 in
theorem law_pos (u : Nat) (h8 : 8 < u) (hhi : u ≤ 9223372036854775807) (w : World) (hIt : Calls Tryd.prog 18 #[.int .i64 u] w fun e w' => e = .returned (.string ⟨(Lib.decDigits u).toArray⟩) ∧ Below w.heap.size w w') :
    Calls Tryd.prog 3 #[.int .i64 u] w fun e w' => e = .returned (.bool true) ∧ Below w.heap.size w w' := by
  have hp := dec_pos u
  have hl := dec_le u (by omega)
  obtain ⟨c, l, hcl, hc48⟩ := dec_head u (by omega)
  have hr := dec_range u
  have hv := rd_dec u
  have hsz : (⟨(Lib.decDigits u).toArray⟩ : ByteArray).size = (Lib.decDigits u).length := by simp [ByteArray.size]
  have h7 := z7 u (txt (Lib.decDigits u)) w (str_big u (by omega) ⟨(Lib.decDigits u).toArray⟩ (by rw [hsz]; omega) w hIt)
  have ts := txt_size (Lib.decDigits u)
  have h0 : (⟨(Lib.decDigits u).toArray⟩ : ByteArray)[0]'(by rw [hsz]; omega) = c := by
    rw [arr_get]
    have : (Lib.decDigits u)[0]? = some c := by rw [hcl]; rfl
    exact (List.getElem_eq_iff _).2 this
  have hp8 := fun w' => parse_pos (txt (Lib.decDigits u)) (txt_noNames _) (by omega) (by omega) (txt_head _) (txt_last _ _) ⟨(Lib.decDigits u).toArray⟩ (txt_body _) (by rw [hsz]; omega)
    (by rw [h0, beq_eq_false_iff_ne]; have := hr c (by rw [hcl]; simp); omega) (by rw [hsz]; omega) (by rw [hsz]; omega) (by rw [h0, beq_eq_false_iff_ne]; omega)
    (fun k hk => by rw [arr_get]; exact hr _ (List.getElem_mem _)) u (by show rd 0 _ = u; exact hv) (by omega) (by omega) w'
  obtain ⟨s, hs⟩ : ∃ s, s = txt (Lib.decDigits u) := ⟨_, rfl⟩
  rw [← hs] at h7 hp8
  clear hIt hp hl hcl hc48 hr hv hsz ts h0 hs
  go_enter Tryd.func3, Tryd.ntmps3
  go_wp2_with fail
  refine h7.mono ?_
  rintro e w1 ⟨rfl, hb⟩
  go_wp2_with fail
  refine (hp8 _).mono ?_
  rintro e w2 ⟨rfl, rfl⟩
  go_wp2_with fail
  refine (same_pos u (by omega) (by omega) _).mono ?_
  rintro e w3 ⟨rfl, rfl⟩
  go_wp2
  go_ret
  exact ⟨rfl, hb⟩

set_option maxHeartbeats 1000000 in
theorem law_neg (u : Nat) (h1 : 1 ≤ u) (hhi : u ≤ 9223372036854775808) (t : Int) (ht : t = -(u : Int)) (w : World) (hIt : Calls Tryd.prog 18 #[.int .i64 t] w fun e w' => e = .returned (.string ⟨(45 :: Lib.decDigits u).toArray⟩) ∧ Below w.heap.size w w') :
    Calls Tryd.prog 3 #[.int .i64 t] w fun e w' => e = .returned (.bool true) ∧ Below w.heap.size w w' := by
  have hp := dec_pos u
  have hl := dec_le u (by omega)
  obtain ⟨c, l, hcl, hc48⟩ := dec_head u (by omega)
  have hr := dec_range u
  have hv := rd_dec u
  have hsz : (⟨(Lib.decDigits u).toArray⟩ : ByteArray).size = (Lib.decDigits u).length := by simp [ByteArray.size]
  have hszB : (⟨(45 :: Lib.decDigits u).toArray⟩ : ByteArray).size = (Lib.decDigits u).length + 1 := by simp [ByteArray.size]
  have h7 := z7 t (txt (45 :: Lib.decDigits u)) w (str_big t (by omega) ⟨(45 :: Lib.decDigits u).toArray⟩ (by rw [hszB]; omega) w hIt)
  have ts := txt_size (45 :: Lib.decDigits u)
  rw [List.length_cons] at ts
  have h0 : (⟨(Lib.decDigits u).toArray⟩ : ByteArray)[0]'(by rw [hsz]; omega) = c := by
    rw [arr_get]
    have : (Lib.decDigits u)[0]? = some c := by rw [hcl]; rfl
    exact (List.getElem_eq_iff _).2 this
  have hB0 : (((⟨(45 :: Lib.decDigits u).toArray⟩ : ByteArray)[0]'(by rw [hszB]; omega)).toNat : Int) = 45 := by rw [arr_get]; rfl
  have hD : (⟨(45 :: Lib.decDigits u).toArray⟩ : ByteArray).extract 1 (⟨(45 :: Lib.decDigits u).toArray⟩ : ByteArray).size = ⟨(Lib.decDigits u).toArray⟩ := by
    apply ba_ext
    rw [Lib.extract_data, hszB]
    simp
  have hp8 := fun w' => parse_neg (txt (45 :: Lib.decDigits u)) (txt_noNames _) (by omega) (by omega) (txt_head _) (txt_last _ _) ⟨(45 :: Lib.decDigits u).toArray⟩ (txt_body _) (by rw [hszB]; omega) hB0 ⟨(Lib.decDigits u).toArray⟩ hD
    (by rw [hsz]; omega) (by rw [hsz]; omega) (by rw [h0, beq_eq_false_iff_ne]; omega)
    (fun k hk => by rw [arr_get]; exact hr _ (List.getElem_mem _)) u (by show rd 0 _ = u; exact hv) (by omega) (by omega) w'
  obtain ⟨s, hs⟩ : ∃ s, s = txt (45 :: Lib.decDigits u) := ⟨_, rfl⟩
  rw [← hs] at h7 hp8
  have HT : Hid (t = -(u : Int)) := ht
  have htn : t < 0 := by omega
  have htl : -9223372036854775808 ≤ t := by omega
  clear hIt hp hl hcl hc48 hr hv hsz hszB ts h0 hs hB0 hD ht
  go_enter Tryd.func3, Tryd.ntmps3
  go_wp2_with fail
  refine h7.mono ?_
  rintro e w1 ⟨rfl, hb⟩
  go_wp2_with fail
  refine (hp8 _).mono ?_
  rintro e w2 ⟨rfl, rfl⟩
  go_wp2_with fail
  refine (same_neg t u htn htl (by show (u : Int) = -t; have := HT.out; omega) _).mono ?_
  rintro e w3 ⟨rfl, rfl⟩
  go_wp2
  go_ret
  exact ⟨rfl, hb⟩

/-- THE LAW, for every int64. -/
theorem law_any (t : Int) (hlo : -9223372036854775808 ≤ t) (hhi : t ≤ 9223372036854775807) (w : World) (hIt : Calls Tryd.prog 18 #[.int .i64 t] w fun e w' => e = .returned (.string ⟨(Lib.itoa t).toArray⟩) ∧ Below w.heap.size w w') :
    Calls Tryd.prog 3 #[.int .i64 t] w fun e w' => e = .returned (.bool true) ∧ Below w.heap.size w w' := by
  by_cases hn : t < 0
  · obtain ⟨u, hu⟩ : ∃ u : Nat, t = -(u : Int) := ⟨t.natAbs, by omega⟩
    refine law_neg u (by omega) (by omega) t hu w ?_
    have e : Lib.itoa t = 45 :: Lib.decDigits u := by rw [hu]; exact Lib.itoa_neg u (by omega)
    rw [e] at hIt
    exact hIt
  · by_cases h8 : 8 < t
    · obtain ⟨u, rfl⟩ : ∃ u : Nat, t = u := ⟨t.toNat, by omega⟩
      refine law_pos u (by omega) (by omega) w ?_
      rw [Lib.itoa_nonneg] at hIt
      exact hIt
    · rcases (show t = 0 ∨ t = 1 ∨ t = 2 ∨ t = 3 ∨ t = 4 ∨ t = 5 ∨ t = 6 ∨ t = 7 ∨ t = 8 from by omega) with rfl | rfl | rfl | rfl | rfl | rfl | rfl | rfl | rfl
      · exact law0 w
      · exact law1 w
      · exact law2 w
      · exact law3 w
      · exact law4 w
      · exact law5 w
      · exact law6 w
      · exact law7 w
      · exact law8 w
end Go.Proofs.Qxb6602091aDoor
