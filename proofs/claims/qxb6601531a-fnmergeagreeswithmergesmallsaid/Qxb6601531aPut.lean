import Derived.Test.Qxb6601531aSeek
import Derived.Laws.CopyOwn
namespace Go.Proofs.Qxb6601531a
open Go.RowKit

def cmpI (x y : ByteArray) : Int := if x.toList = y.toList then 0 else if x.toList < y.toList then -1 else 1

theorem compareIDs (x y : ByteArray) (w : World) : Calls Try.prog 37 #[.string x, .string y] w fun e w' => e = .returned (.int .i64 (cmpI x y)) ∧ w' = w := by
  unfold cmpI
  by_cases h : x.toList = y.toList
  · have hb : (x.toList == y.toList) = true := by simpa using h
    rw [if_pos h]
    clear h
    go_enter Try.func37, Try.ntmps37
    go_wp2
    go_ret
    exact ⟨rfl, rfl⟩
  · have hb : (x.toList == y.toList) = false := by simpa using h
    rw [if_neg h]
    by_cases hl : x.toList < y.toList
    · have hc := (less_iff _ _).2 hl
      rw [if_pos hl]
      clear h hl
      go_enter Try.func37, Try.ntmps37
      go_wp2
      go_ret
      exact ⟨rfl, rfl⟩
    · have hc := (less_not _ _).2 hl
      rw [if_neg hl]
      clear h hl
      go_enter Try.func37, Try.ntmps37
      go_wp2
      go_ret
      exact ⟨rfl, rfl⟩

set_option maxHeartbeats 1000000 in
theorem passRun (b o n c : Nat) (hn : n ≤ 1048576) (hnc : n ≤ c) (f : Nat → ByteArray) (x : ByteArray) (k : Nat) (hk : k < n) (hx : Hid ((f k).toList < x.toList)) (r : Bool) (w : World) (hs : Hid (Sorted f n)) (hc : ∀ i, i < n → w.cell? ⟨b, o + i, none⟩ = some (.string (f i))) :
    Calls Try.prog 38 #[.slice (some ⟨b, o, none⟩) n c, .int .i64 k, .string x, .bool r] w fun e w' => RunR f n k x e ∧ w' = w := by
  cases r with
  | true =>
    go_enter Try.func38, Try.ntmps38
    go_wp2_with fail
    refine (seek b o n c hn hnc f x k hk hx _ hs hc).mono ?_
    rintro e w' ⟨⟨q, rfl, h1, h2, h3⟩, rfl⟩
    go_wp2
    go_ret
    exact ⟨runR q rfl h1 h2 h3, rfl⟩
  | false =>
    clear hc
    go_enter Try.func38, Try.ntmps38
    go_wp2
    go_ret
    exact ⟨runR (k + 1) (by go_num) (by omega) (by omega) (fun i h1 h2 => by rw [show i = k by omega]; exact hx.out), rfl⟩
/-- 'copy', told by cells. -/
theorem wpList_copy_cells {P : Program} {w : World} {ops : Array Oper} {rest : List Oper} {o : Oper} {a : Act} {Q : Exit → Act → World → Prop} (hgd : o.guard = none) (d s : Operand) (dT sT : TypeId)
    (ho : o.op = .call { callee := .builtin .copy, args := #[d, s], argTypes := #[dT, sT] }) (elem : TypeId) (hu : P.underlying dT = some (.slice elem)) (hsz : (P.info? elem).map (·.size) = some 1)
    (dp sp : Option Addr) (dLen dCap sLen sCap : Nat) (hd : a.eval d = .slice dp dLen dCap) (hs : a.eval s = .slice sp sLen sCap)
    (g off : Nat) (cs : List Value) (hn : cs.length = Nat.min sLen dLen)
    (hpos : 0 < cs.length → dp = some ⟨g, off, none⟩ ∧ ∃ ad, sp = some ad ∧ ∀ j v, cs[j]? = some v → w.cell? (ad.add j) = some v)
    (hc : ∀ j, j < cs.length → (w.cell? ⟨g, off + j, none⟩).isSome = true) (hf : ∀ j, j < cs.length → w.frozen? ⟨g, off + j, none⟩ = false) (h1 : ∀ v ∈ cs, v.oneCell' = true)
    (h : wpList P ops Q rest (a.put o.dst (goInt cs.length)) (w.setCells g off cs)) :
    wpList P ops Q (o :: rest) a w := by
  by_cases h0 : cs.length = 0
  · obtain rfl : cs = [] := List.eq_nil_of_length_eq_zero h0
    exact wpList_copy_nothing hgd d s dT sT ho elem hu hsz dp sp dLen dCap sLen sCap hd hs (by simpa using hn.symm) h
  · obtain ⟨rfl, ad, rfl, hsrc⟩ := hpos (by omega)
    refine wpList_plain hgd fun K hK => ?_
    have hrun := run_copy_cells (P := P) w dT sT o.type elem g off dLen dCap ad sLen sCap cs hu hsz hn hsrc hc hf h1
    unfold Oper.wp
    simp [execOp, ho, resolve, invoke, builtin, hd, hs, hrun, Result.andThen]
    exact hK _ _ h

/-- q counters; q ids: as cells. -/
def us (g : Nat → Int) (q : Nat) : List Value := (List.range q).map fun i => .int .u64 (g i)
def ss (f : Nat → ByteArray) (q : Nat) : List Value := (List.range q).map fun i => .string (f i)
theorem us_length (g : Nat → Int) (q : Nat) : (us g q).length = q := by simp [us]
theorem ss_length (f : Nat → ByteArray) (q : Nat) : (ss f q).length = q := by simp [ss]
theorem us_get {g : Nat → Int} {q j : Nat} {v : Value} (h : (us g q)[j]? = some v) : j < q ∧ v = .int .u64 (g j) := by
  have hj : j < q := by have := (List.getElem?_eq_some_iff.1 h).1; rwa [us_length] at this
  simp [us, hj] at h
  exact ⟨hj, h.symm⟩
theorem ss_get {f : Nat → ByteArray} {q j : Nat} {v : Value} (h : (ss f q)[j]? = some v) : j < q ∧ v = .string (f j) := by
  have hj : j < q := by have := (List.getElem?_eq_some_iff.1 h).1; rwa [ss_length] at this
  simp [ss, hj] at h
  exact ⟨hj, h.symm⟩
theorem us_one {g : Nat → Int} {q : Nat} : ∀ v ∈ us g q, v.oneCell' = true := by
  intro v hv
  obtain ⟨i, -, rfl⟩ := List.mem_map.1 hv
  rfl
theorem ss_one {f : Nat → ByteArray} {q : Nat} : ∀ v ∈ ss f q, v.oneCell' = true := by
  intro v hv
  obtain ⟨i, -, rfl⟩ := List.mem_map.1 hv
  rfl

theorem size26 : (Try.prog.info? 26).map (·.size) = some 1 := by kernel_rfl
theorem size9 : (Try.prog.info? 9).map (·.size) = some 1 := by kernel_rfl

set_option maxRecDepth 100000 in
set_option maxHeartbeats 1000000 in
theorem putCounters (bb bo L C k q c : Nat) (hL : L ≤ C) (hC : L ≤ 1048576) (hkq : k + q ≤ L) (ao : Option Addr) (g : Nat → Int) (w : World)
    (hsrc : 0 < q → ∃ bs os, ao = some ⟨bs, os, none⟩ ∧ ∀ i, i < q → w.cell? ⟨bs, os + i, none⟩ = some (.int .u64 (g i)))
    (hd : ∀ i, i < L → (w.cell? ⟨bb, bo + i, none⟩).isSome = true) (hf : ∀ i, i < L → w.frozen? ⟨bb, bo + i, none⟩ = false) :
    Calls Try.prog 39 #[.slice (some ⟨bb, bo, none⟩) L C, .int .i64 k, .slice ao q c] w fun e w' => e = .returned (.int .i64 ((k : Int) + q)) ∧ w' = w.setCells bb (bo + k) (us g q) := by
  by_cases hq : q = 1
  · subst hq
    obtain ⟨bs, os, rfl, hs⟩ := hsrc (by omega)
    have g1 := hs 0 (by omega)
    rw [Nat.add_zero] at g1
    obtain ⟨v, g2⟩ := Option.isSome_iff_exists.1 (hd k (by omega))
    have g3 := hf k (by omega)
    clear hsrc hs hd hf
    go_enter Try.func39, Try.ntmps39
    go_wp2
    go_ret
    exact ⟨rfl, rfl⟩
  · have hq1 : ((q : Int) == 1) = false := by rw [beq_eq_false_iff_ne]; omega
    have hul := us_length g q
    go_enter Try.func39, Try.ntmps39
    go_wp2_with (refine wpList_copy_cells rfl (.tmp 21) (.tmp 22) 23 23 rfl 26 Try.underlying23 size26 _ _ _ _ _ _ rfl rfl bb (bo + k) (us g q) ?_ ?_ ?_ ?_ us_one ?_)
    case refine_1 => rw [us_length]; show q = min q (L - k); omega
    case refine_2.inl => intro hp; omega
    case refine_2.inr =>
      intro hp
      obtain ⟨bs, os, rfl, hs⟩ := hsrc hp
      refine ⟨_, rfl, fun j v hj => ?_⟩
      obtain ⟨hj', rfl⟩ := us_get hj
      rw [Addr.add_lit]
      exact hs j hj'
    case refine_3 => intro j hj; rw [us_length] at hj; rw [Nat.add_assoc]; exact hd (k + j) (by omega)
    case refine_4 => intro j hj; rw [us_length] at hj; rw [Nat.add_assoc]; exact hf (k + j) (by omega)
    all_goals (go_ret; exact ⟨rfl, rfl⟩)
end Go.Proofs.Qxb6601531a
