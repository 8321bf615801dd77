import Derived.Test.Qxb6601691aPrune
namespace Go.Proofs.Qxb6601691a
open Go.RowKit

set_option maxRecDepth 100000 in
set_option maxHeartbeats 1000000 in
theorem toZZ (a : Option Addr) (n c : Nat) (hn : n ≤ 1048576) (h0 : a = none → n = 0) (x : Nat → Chg) (w : World) (hz : CA w a n x) :
    Calls Try.prog 12 #[.slice a n c] w fun e w' => ChR a.isNone n x w w' e := by
  cases a with
  | none =>
    have hq : ∀ w, (binOp .eql 22 (.slice none n c) (.slice none 0 0)).run Try.prog w = .ok (.bool true) w := fun w => Lib.run_eql_slice_nil w 22 48 _ n c 0 0 Try.underlying22
    obtain rfl := h0 rfl
    go_enter Try.func12, Try.ntmps12
    go_wp2
    go_ret
    exact chR _ _ rfl (fun _ => rfl) (by intro h; omega) (Below.refl _ _)
  | some ad =>
    obtain ⟨i0, hi, hz1, hz2, hz3⟩ := info_parts Try.info50
    have hq : ∀ w, (binOp .eql 22 (.slice (some ad) n c) (.slice none 0 0)).run Try.prog w = .ok (.bool false) w := fun w => Lib.run_eql_slice_nil w 22 48 _ n c 0 0 Try.underlying22
    go_enter Try.func12, Try.ntmps12
    go_wp2_with (at_make; refine wpList_make_full _ rfl _ _ 26 rfl w.heap.size 50 i0 (.agg #[.int .u64 0, .int .u64 0, .bool false]) 3 Try.underlying26 hi hz1 hz2 .i64 .i64 n n n rfl rfl rfl rfl ?b1 ?b2 ?b3 ?_)
    case b1 => rw [hz3]; omega
    case b2 => unfold maxLen; omega
    case b3 => exact Nat.le_refl _
    intro w2 hown2 hgrow
    have hst := cp3_start n x 50 hown2 ((Below.refl _ _).grown hgrow (Nat.le_refl _) (by simp))
    clear hown2 hgrow hq hi hz1 hz2 hz3
    go_wp2
    go_loopw [4] (fun i wr => ∃ k : Nat, k ≤ n ∧ i = .int .i64 k ∧ Cp3 n x w.heap.size w wr k) (fun i _ => n - (intOf i).toNat)
    case atStart => exact ⟨0, Nat.zero_le _, rfl, hst⟩
    case round =>
      obtain ⟨k, hk, rfl, hcp⟩ := hrel
      by_cases hlt : k < n
      · obtain ⟨b, o, ha, hc⟩ := hz (by omega)
        injection ha with ha
        subst ha
        obtain ⟨g1, g2, g3⟩ := (hc k hlt).below hcp.2.2 (hc k hlt).lt
        obtain ⟨⟨d, d1, d2, d3⟩, f1, f2, f3⟩ := hcp.1 k hlt
        have hcp' := (cp3_step hcp hlt).drew
        have i1 : (k : Int) < n := by omega
        unfold put3 at hcp'
        clear hc hz hst
        go_wp2
        go_region
        all_goals
          go_wp2
          go_roundw
          case rel => exact ⟨k + 1, by omega, by go_num, hcp'⟩
          case measure => simp [intOf]; omega
      · clear hz hst
        go_wp2
        go_ret
        refine chR _ _ rfl (fun h => by cases h) (fun _ => ⟨w.heap.size, 0, rfl, fun i hi => ?_⟩) hcp.2.2
        rw [Nat.zero_add]
        exact hcp.2.1 i (by omega)

/-! ### Plain: the pruned list -/
/-- The slot of the last change among the first k that is decided at or below size. -/
def since (x : Nat → Chg) (size : Int) : Nat → Option Int
  | 0 => none
  | k + 1 => if (x k).2.2 = true ∧ (x k).1 ≤ size then some (x k).1 else since x size k
def keeps (s : Int) (c : Chg) : Bool := decide (s < c.1) || (c.2.2 && decide (c.1 = s))
/-- Of the first k changes those that are kept. -/
def fl (s : Int) (x : Nat → Chg) : Nat → List Chg
  | 0 => []
  | k + 1 => if keeps s (x k) = true then fl s x k ++ [x k] else fl s x k

theorem fl_le (s : Int) (x : Nat → Chg) (k : Nat) : (fl s x k).length ≤ k := by
  induction k with
  | zero => simp [fl]
  | succ k ih =>
    rw [fl]
    split
    · rw [List.length_append]; simp; omega
    · omega

/-- 'append' WITHIN THE CAPACITY, told by cells. -/
theorem wpList_append_cells {P : Program} (w : World) {ops : Array Oper} {rest : List Oper} {o : Oper} {a : Act} {Q : Exit → Act → World → Prop}
    (hg : o.guard = none) (s x : Operand) (t : TypeId) (hop : o.op = Op.call { callee := Callee.builtin Builtin.append, args := #[s, x], argTypes := #[t, t] })
    (e : TypeId) (i : TypeInfo) (size : Nat) (h1 : P.underlying t = some (.slice e)) (h2 : P.info? e = some i) (h4 : i.size = size)
    (b off n cap : Nat) (hs : a.eval s = .slice (some ⟨b, off, none⟩) n cap)
    (ad : Addr) (m c : Nat) (news : List Value) (hx : a.eval x = .slice (some ad) m c) (hn : news.length = m * size) (hc : ∀ j u, news[j]? = some u → w.cell? (ad.add j) = some u) (h1c : ∀ u ∈ news, u.oneCell' = true)
    (hr : n + m ≤ cap) (hspare : ∀ j, j < news.length → (w.cell? ⟨b, off + n * size + j, none⟩).isSome = true ∧ w.frozen? ⟨b, off + n * size + j, none⟩ = false)
    (hK : wpList P ops Q rest (a.put o.dst (.slice (some ⟨b, off, none⟩) (n + m) cap)) (w.setCells b (off + n * size) news)) :
    wpList P ops Q (o :: rest) a w := by
  refine wpList_plain hg fun K hK' => ?_
  subst h4
  have hrun := run_append_room_cells (P := P) w t o.type e i h1 h2 b off n cap ad m c news hn hc h1c hr (fun j hj => (hspare j hj).1) (fun j hj => (hspare j hj).2)
  unfold Oper.wp
  simp [execOp, hop, resolve, invoke, builtin, hs, hx, hrun, Result.andThen]
  exact hK' _ _ hK

end Go.Proofs.Qxb6601691a
