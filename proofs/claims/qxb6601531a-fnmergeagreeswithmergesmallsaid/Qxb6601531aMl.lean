import Derived.Test.Qxb6601531aMi
namespace Go.Proofs.Qxb6601531a

/-! ### Plain: what the merge of two lists in order holds -/
abbrev Asc (V : List Ent) : Prop := V.Pairwise fun a b => a.1.toList < b.1.toList

theorem mu_mem : ∀ (V W : List Ent), Asc V → Asc W → ∀ p ∈ mu V W, (∃ a ∈ V, ∃ b ∈ W, a.1.toList = b.1.toList ∧ p = (a.1, max a.2 b.2)) ∨ (p ∈ V ∧ ∀ b ∈ W, b.1.toList ≠ p.1.toList) ∨ (p ∈ W ∧ ∀ a ∈ V, a.1.toList ≠ p.1.toList)
  | [], W, _, _, p, hp => .inr (.inr ⟨hp, fun a ha => by cases ha⟩)
  | a :: V, [], _, _, p, hp => .inr (.inl ⟨by rwa [mu_nil_right] at hp, fun a ha => by cases ha⟩)
  | a :: V, b :: W, hV, hW, p, hp => by
    obtain ⟨v1, v2⟩ := List.pairwise_cons.1 hV
    obtain ⟨w1, w2⟩ := List.pairwise_cons.1 hW
    rcases klt_tri a.1.toList b.1.toList with h | h | h
    · rw [mu_lt h] at hp
      have ha : ∀ b' ∈ b :: W, a.1.toList < b'.1.toList := fun b' hb' => by
        rcases List.mem_cons.1 hb' with rfl | hb'
        · exact h
        · exact klt_trans h (w1 b' hb')
      rcases List.mem_cons.1 hp with rfl | hp
      · exact .inr (.inl ⟨List.mem_cons_self, fun b' hb' e => klt_irrefl _ (e ▸ ha b' hb')⟩)
      · rcases mu_mem V (b :: W) v2 hW p hp with ⟨a', ha', b', hb', h1, h2⟩ | ⟨h1, h2⟩ | ⟨h1, h2⟩
        · exact .inl ⟨a', List.mem_cons_of_mem _ ha', b', hb', h1, h2⟩
        · exact .inr (.inl ⟨List.mem_cons_of_mem _ h1, h2⟩)
        · refine .inr (.inr ⟨h1, fun a' ha' e => ?_⟩)
          rcases List.mem_cons.1 ha' with rfl | ha'
          · exact klt_irrefl _ (e ▸ ha p h1)
          · exact h2 a' ha' e
    · rw [mu_eq h] at hp
      rcases List.mem_cons.1 hp with rfl | hp
      · exact .inl ⟨a, List.mem_cons_self, b, List.mem_cons_self, h, rfl⟩
      · rcases mu_mem V W v2 w2 p hp with ⟨a', ha', b', hb', h1, h2⟩ | ⟨h1, h2⟩ | ⟨h1, h2⟩
        · exact .inl ⟨a', List.mem_cons_of_mem _ ha', b', List.mem_cons_of_mem _ hb', h1, h2⟩
        · refine .inr (.inl ⟨List.mem_cons_of_mem _ h1, fun b' hb' e => ?_⟩)
          rcases List.mem_cons.1 hb' with rfl | hb'
          · have := v1 p h1
            rw [← e, h] at this
            exact klt_irrefl _ this
          · exact h2 b' hb' e
        · refine .inr (.inr ⟨List.mem_cons_of_mem _ h1, fun a' ha' e => ?_⟩)
          rcases List.mem_cons.1 ha' with rfl | ha'
          · have := w1 p h1
            rw [← e, h] at this
            exact klt_irrefl _ this
          · exact h2 a' ha' e
    · rw [mu_gt h] at hp
      have hb : ∀ a' ∈ a :: V, b.1.toList < a'.1.toList := fun a' ha' => by
        rcases List.mem_cons.1 ha' with rfl | ha'
        · exact h
        · exact klt_trans h (v1 a' ha')
      rcases List.mem_cons.1 hp with rfl | hp
      · exact .inr (.inr ⟨List.mem_cons_self, fun a' ha' e => klt_irrefl _ (e ▸ hb a' ha')⟩)
      · rcases mu_mem (a :: V) W hV w2 p hp with ⟨a', ha', b', hb', h1, h2⟩ | ⟨h1, h2⟩ | ⟨h1, h2⟩
        · exact .inl ⟨a', ha', b', List.mem_cons_of_mem _ hb', h1, h2⟩
        · refine .inr (.inl ⟨h1, fun b' hb' e => ?_⟩)
          rcases List.mem_cons.1 hb' with rfl | hb'
          · exact klt_irrefl _ (e ▸ hb p h1)
          · exact h2 b' hb' e
        · exact .inr (.inr ⟨List.mem_cons_of_mem _ h1, h2⟩)

theorem mu_key {V W : List Ent} (hV : Asc V) (hW : Asc W) {p : Ent} (hp : p ∈ mu V W) : (∃ a ∈ V, a.1 = p.1) ∨ ∃ b ∈ W, b.1 = p.1 := by
  rcases mu_mem V W hV hW p hp with ⟨a, ha, b, _, _, rfl⟩ | ⟨h, _⟩ | ⟨h, _⟩
  · exact .inl ⟨a, ha, rfl⟩
  · exact .inl ⟨p, h, rfl⟩
  · exact .inr ⟨p, h, rfl⟩

theorem mu_asc : ∀ (V W : List Ent), Asc V → Asc W → Asc (mu V W)
  | [], W, _, hW => hW
  | a :: V, [], hV, _ => by rw [mu_nil_right]; exact hV
  | a :: V, b :: W, hV, hW => by
    obtain ⟨v1, v2⟩ := List.pairwise_cons.1 hV
    obtain ⟨w1, w2⟩ := List.pairwise_cons.1 hW
    rcases klt_tri a.1.toList b.1.toList with h | h | h
    · rw [mu_lt h]
      refine List.pairwise_cons.2 ⟨fun p hp => ?_, mu_asc V (b :: W) v2 hW⟩
      rcases mu_key v2 hW hp with ⟨x, hx, e⟩ | ⟨x, hx, e⟩
      · rw [← e]; exact v1 x hx
      · rw [← e]
        rcases List.mem_cons.1 hx with rfl | hx
        · exact h
        · exact klt_trans h (w1 x hx)
    · rw [mu_eq h]
      refine List.pairwise_cons.2 ⟨fun p hp => ?_, mu_asc V W v2 w2⟩
      rcases mu_key v2 w2 hp with ⟨x, hx, e⟩ | ⟨x, hx, e⟩
      · rw [← e]; exact v1 x hx
      · rw [← e]; show a.1.toList < _; rw [h]; exact w1 x hx
    · rw [mu_gt h]
      refine List.pairwise_cons.2 ⟨fun p hp => ?_, mu_asc (a :: V) W hV w2⟩
      rcases mu_key hV w2 hp with ⟨x, hx, e⟩ | ⟨x, hx, e⟩
      · rw [← e]
        rcases List.mem_cons.1 hx with rfl | hx
        · exact h
        · exact klt_trans h (v1 x hx)
      · rw [← e]; exact w1 x hx

/-- Is a's id among W's? -/
def inW (W : List Ent) (a : Ent) : Bool := W.any fun b => b.1.toList == a.1.toList
theorem inW_iff {W : List Ent} {a : Ent} : inW W a = true ↔ ∃ b ∈ W, b.1.toList = a.1.toList := by simp [inW]
theorem inW_cons_ne {W : List Ent} {a b : Ent} (h : b.1.toList ≠ a.1.toList) : inW (b :: W) a = inW W a := by
  have : (b.1.toList == a.1.toList) = false := by simpa using h
  simp [inW, this]

theorem mu_count : ∀ (V W : List Ent), Asc V → Asc W → (mu V W).length + V.countP (inW W) = V.length + W.length
  | [], W, _, _ => by simp [mu_nil]
  | a :: V, [], _, _ => by
    rw [mu_nil_right]
    have : (a :: V).countP (inW []) = 0 := List.countP_eq_zero.2 fun x _ => by simp [inW]
    simp [this]
  | a :: V, b :: W, hV, hW => by
    obtain ⟨v1, v2⟩ := List.pairwise_cons.1 hV
    obtain ⟨w1, w2⟩ := List.pairwise_cons.1 hW
    rcases klt_tri a.1.toList b.1.toList with h | h | h
    · have ih := mu_count V (b :: W) v2 hW
      have hn : inW (b :: W) a = false := by
        cases e : inW (b :: W) a with
        | false => rfl
        | true =>
          obtain ⟨b', hb', e'⟩ := inW_iff.1 e
          rcases List.mem_cons.1 hb' with rfl | hb'
          · rw [e'] at h; exact absurd h (klt_irrefl _)
          · have := klt_trans h (w1 b' hb'); rw [e'] at this; exact absurd this (klt_irrefl _)
      rw [mu_lt h, List.countP_cons_of_neg (by simp [hn])]
      simp only [List.length_cons] at ih ⊢
      omega
    · have ih := mu_count V W v2 w2
      have hc : V.countP (inW (b :: W)) = V.countP (inW W) := List.countP_congr fun x hx => by
        rw [inW_cons_ne (fun e => klt_irrefl _ (by have := v1 x hx; rw [h, e] at this; exact this))]
      rw [mu_eq h, List.countP_cons_of_pos (inW_iff.2 ⟨b, List.mem_cons_self, h.symm⟩), hc]
      simp only [List.length_cons] at ih ⊢
      omega
    · have ih := mu_count (a :: V) W hV w2
      have hc : (a :: V).countP (inW (b :: W)) = (a :: V).countP (inW W) := List.countP_congr fun x hx => by
        rw [inW_cons_ne (fun e => ?_)]
        rcases List.mem_cons.1 hx with rfl | hx
        · rw [e] at h; exact klt_irrefl _ h
        · have := klt_trans h (v1 x hx); rw [e] at this; exact klt_irrefl _ this
      rw [mu_gt h, hc]
      simp only [List.length_cons] at ih ⊢
      omega

section
variable {f g : Nat → ByteArray} {fc gc : Nat → Int} {n m : Nat}

theorem ents_mem {p : Ent} : p ∈ ents f fc n 0 ↔ ∃ x, x < n ∧ p = (f x, fc x) := by
  unfold ents
  simp only [List.drop_zero, List.mem_map, List.mem_range]
  constructor
  · rintro ⟨x, hx, rfl⟩; exact ⟨x, hx, rfl⟩
  · rintro ⟨x, hx, rfl⟩; exact ⟨x, hx, rfl⟩

theorem ents_asc (h : Sorted f n) : Asc (ents f fc n 0) := by
  unfold ents
  rw [List.drop_zero, Asc, List.pairwise_map]
  refine List.Pairwise.imp_of_mem ?_ List.pairwise_lt_range
  intro x y _ hy hxy
  exact h.lt hxy (List.mem_range.1 hy)

/-- How many of f 0 .. f (k-1) are among g's. -/
def com (f : Nat → ByteArray) (g : Nat → ByteArray) (m : Nat) : Nat → Nat
  | 0 => 0
  | k + 1 => com f g m k + if 0 ≤ fnd g (f k) m then 1 else 0

theorem com_le (k : Nat) : com f g m k ≤ k := by
  induction k with
  | zero => exact Nat.le_refl _
  | succ k ih => rw [com]; split <;> omega

theorem fnd_nonneg {x : ByteArray} : 0 ≤ fnd g x m ↔ ∃ j, j < m ∧ (g j).toList = x.toList := by
  rcases fnd_cases g x m with ⟨h1, h2⟩ | ⟨i, h1, h2, h3⟩
  · constructor
    · intro h; rw [h1] at h; omega
    · rintro ⟨j, hj, e⟩; exact absurd e (h2 j hj)
  · constructor
    · intro _; exact ⟨i, h1, h3⟩
    · intro _; rw [h2]; omega

theorem com_count (k : Nat) : com f g m k = (ents f fc k 0).countP (inW (ents g gc m 0)) := by
  induction k with
  | zero => rfl
  | succ k ih =>
    have he : ents f fc (k + 1) 0 = ents f fc k 0 ++ [(f k, fc k)] := by simp [ents, List.range_succ]
    rw [com, he, List.countP_append, ← ih]
    congr 1
    have : inW (ents g gc m 0) (f k, fc k) = decide (0 ≤ fnd g (f k) m) := by
      rw [Bool.eq_iff_iff, inW_iff, decide_eq_true_eq, fnd_nonneg]
      constructor
      · rintro ⟨b, hb, e⟩
        obtain ⟨j, hj, rfl⟩ := ents_mem.1 hb
        exact ⟨j, hj, e⟩
      · rintro ⟨j, hj, e⟩
        exact ⟨(g j, gc j), ents_mem.2 ⟨j, hj, rfl⟩, e⟩
    by_cases h : 0 ≤ fnd g (f k) m <;> simp [this, h]

/-- The counter that isMaxUnion wants at an id. -/
def want (f g : Nat → ByteArray) (fc gc : Nat → Int) (n m : Nat) (x : ByteArray) : Int :=
  let a := fnd f x n
  let b := fnd g x m
  let u := if 0 ≤ a then fc a.toNat else 0
  if 0 ≤ b ∧ u < gc b.toNat then gc b.toNat else u

/-- What isMaxUnion asks. -/
structure MU (f g : Nat → ByteArray) (fc gc : Nat → Int) (n m : Nat) (r : Nat → ByteArray) (rc : Nat → Int) (k : Nat) : Prop where
  asc : Sorted r k
  len : k + com f g m n = n + m
  has : ∀ z, z < k → 0 ≤ fnd f (r z) n ∨ 0 ≤ fnd g (r z) m
  eq : ∀ z, z < k → rc z = want f g fc gc n m (r z)

theorem mu_get {M : List Ent} {z : Nat} (hz : z < M.length) : (mi M z, mc M z) ∈ M := by
  have : M[z]? = some (mi M z, mc M z) := by simp [mi, mc, hz]
  exact List.mem_of_getElem? this

theorem mu_MU (sf : Sorted f n) (sg : Sorted g m) (pg : ∀ y, y < m → 0 ≤ gc y) {M : List Ent} (hM : M = mu (ents f fc n 0) (ents g gc m 0)) : MU f g fc gc n m (mi M) (mc M) M.length := by
  have aV := ents_asc (fc := fc) sf
  have aW := ents_asc (fc := gc) sg
  have hA : Asc M := by rw [hM]; exact mu_asc _ _ aV aW
  have hmem := fun z (hz : z < M.length) => mu_mem _ _ aV aW (mi M z, mc M z) (by rw [← hM]; exact mu_get hz)
  refine ⟨fun i hi => ?_, ?_, fun z hz => ?_, fun z hz => ?_⟩
  · rw [less_iff]
    have := List.pairwise_iff_getElem.1 hA i (i + 1) (by omega) hi (by omega)
    simpa [mi, hi, show i < M.length by omega] using this
  · rw [com_count (fc := fc) (gc := gc), hM, mu_count _ _ aV aW, ents_length, ents_length]
    omega
  · rcases hmem z hz with ⟨a, ha, b, _, _, e⟩ | ⟨h, _⟩ | ⟨h, _⟩
    · obtain ⟨x, hx, rfl⟩ := ents_mem.1 ha
      exact .inl (fnd_nonneg.2 ⟨x, hx, by rw [(Prod.mk.inj e).1]⟩)
    · obtain ⟨x, hx, e⟩ := ents_mem.1 h
      exact .inl (fnd_nonneg.2 ⟨x, hx, by rw [(Prod.mk.inj e).1]⟩)
    · obtain ⟨x, hx, e⟩ := ents_mem.1 h
      exact .inr (fnd_nonneg.2 ⟨x, hx, by rw [(Prod.mk.inj e).1]⟩)
  · rcases hmem z hz with ⟨a, ha, b, hb, hab, e⟩ | ⟨h, h2⟩ | ⟨h, h2⟩
    · obtain ⟨x, hx, rfl⟩ := ents_mem.1 ha
      obtain ⟨y, hy, rfl⟩ := ents_mem.1 hb
      obtain ⟨e1, e2⟩ := Prod.mk.inj e
      rw [e1, e2, want, fnd_some sf hx rfl, fnd_some sg hy hab.symm]
      have h1 : (0 : Int) ≤ x := by omega
      have h2 : (0 : Int) ≤ y := by omega
      simp only [h1, h2, if_true, true_and, Int.toNat_natCast]
      split <;> omega
    · obtain ⟨x, hx, e⟩ := ents_mem.1 h
      obtain ⟨e1, e2⟩ := Prod.mk.inj e
      have hb : fnd g (mi M z) m = -1 := fnd_none fun y hy e' => h2 _ (ents_mem.2 ⟨y, hy, rfl⟩) e'
      rw [want, hb, e2, fnd_some sf hx (by rw [e1])]
      have h1 : (0 : Int) ≤ x := by omega
      simp [h1]
    · obtain ⟨y, hy, e⟩ := ents_mem.1 h
      obtain ⟨e1, e2⟩ := Prod.mk.inj e
      have ha : fnd f (mi M z) n = -1 := fnd_none fun x hx e' => h2 _ (ents_mem.2 ⟨x, hx, rfl⟩) e'
      rw [want, ha, e2, fnd_some sg hy (by rw [e1])]
      have h1 : (0 : Int) ≤ y := by omega
      have := pg y hy
      simp only [h1, true_and, Int.toNat_natCast]
      simp
      omega
end
end Go.Proofs.Qxb6601531a
