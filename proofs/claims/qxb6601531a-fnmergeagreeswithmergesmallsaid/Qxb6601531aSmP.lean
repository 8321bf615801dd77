import Derived.Test.Qxb6601531aMergeP
namespace Go.Proofs.Qxb6601531a

/-! ### Plain: mergeSmall's plan -/
section
variable {f g : Nat → ByteArray} {fc gc : Nat → Int} {n m : Nat} {M : List Ent}

/-- The walk's steps so far, as the plan p notes them: i of v's ids and j of w's passed, k of M's entries. -/
inductive Bk (f : Nat → ByteArray) (fc : Nat → Int) (g : Nat → ByteArray) (gc : Nat → Int) (M : List Ent) : Nat → Nat → Nat → Nat → Prop
  | nil : Bk f fc g gc M 0 0 0 0
  | both {p i j k : Nat} (h : Bk f fc g gc M p i j k) (he : (f i).toList = (g j).toList) (hM : M[k]? = some (f i, max (fc i) (gc j))) : Bk f fc g gc M (4 * p) (i + 1) (j + 1) (k + 1)
  | left {p i j k : Nat} (h : Bk f fc g gc M p i j k) (hM : M[k]? = some (f i, fc i)) : Bk f fc g gc M (4 * p + 1) (i + 1) j (k + 1)
  | right {p i j k : Nat} (h : Bk f fc g gc M p i j k) (hM : M[k]? = some (g j, gc j)) : Bk f fc g gc M (4 * p + 2) i (j + 1) (k + 1)

theorem Bk.lt {p i j k : Nat} (h : Bk f fc g gc M p i j k) : p < 4 ^ k := by
  induction h with
  | nil => decide
  | both h he hM ih => rw [Nat.pow_succ]; omega
  | left h hM ih => rw [Nat.pow_succ]; omega
  | right h hM ih => rw [Nat.pow_succ]; omega

theorem Bk.le {p i j k : Nat} (h : Bk f fc g gc M p i j k) : k ≤ i + j := by
  induction h <;> omega

/-- The plan with room: fewer than 32 steps. -/
theorem Bk.small {p i j k : Nat} (h : Bk f fc g gc M p i j k) (hk : k ≤ 31) : p < 4611686018427387904 := by
  have h1 := h.lt
  have h2 : (4 : Nat) ^ k ≤ 4 ^ 31 := Nat.pow_le_pow_right (by decide) hk
  have h3 : (4 : Nat) ^ 31 = 4611686018427387904 := by decide
  omega

/-- The last step, taken back. -/
theorem Bk.last {p i j k : Nat} (h : Bk f fc g gc M p i j (k + 1)) :
    (p % 4 = 0 ∧ ∃ i' j', i = i' + 1 ∧ j = j' + 1 ∧ Bk f fc g gc M (p / 4) i' j' k ∧ (f i').toList = (g j').toList ∧ M[k]? = some (f i', max (fc i') (gc j'))) ∨
    (p % 4 = 1 ∧ ∃ i', i = i' + 1 ∧ Bk f fc g gc M (p / 4) i' j k ∧ M[k]? = some (f i', fc i')) ∨
    (p % 4 = 2 ∧ ∃ j', j = j' + 1 ∧ Bk f fc g gc M (p / 4) i j' k ∧ M[k]? = some (g j', gc j')) := by
  cases h with
  | both h he hM => exact .inl ⟨by omega, _, _, rfl, rfl, by rw [Nat.mul_div_cancel_left _ (by decide)]; exact h, he, hM⟩
  | left h hM => exact .inr (.inl ⟨by omega, _, rfl, by rw [show ∀ p, (4 * p + 1) / 4 = p by omega]; exact h, hM⟩)
  | right h hM => exact .inr (.inr ⟨by omega, _, rfl, by rw [show ∀ p, (4 * p + 2) / 4 = p by omega]; exact h, hM⟩)

theorem Bk.zero {p i j : Nat} (h : Bk f fc g gc M p i j 0) : p = 0 ∧ i = 0 ∧ j = 0 := by cases h; exact ⟨rfl, rfl, rfl⟩

/-! #### The bits of an id of one side alone -/
theorem and4 (x y : Nat) : x &&& y = 4 * (x / 4 &&& y / 4) + (x % 4 &&& y % 4) := by
  have h1 : (x &&& y) / 4 = x / 4 &&& y / 4 := Nat.and_div_two_pow (n := 2)
  have h2 : (x &&& y) % 4 = x % 4 &&& y % 4 := Nat.and_mod_two_pow (n := 2)
  have := Nat.div_add_mod (x &&& y) 4
  omega

def masks (d : Nat) : Nat → Nat
  | 0 => 0
  | r + 1 => 4 * masks d r + d

/-- One side's bits are clear: that side has shown nothing of its own. -/
theorem Bk.noLeft {p i j k : Nat} (h : Bk f fc g gc M p i j k) : ∀ r, k ≤ r → p &&& masks 1 r = 0 → k = j ∧ (∀ z, z < k → mi M z = g z) := by
  induction h with
  | nil => intro r _ _; exact ⟨rfl, fun z hz => by omega⟩
  | @both p i j k h he hM ih =>
    intro r hr hp
    obtain ⟨r, rfl⟩ : ∃ q, r = q + 1 := ⟨r - 1, by omega⟩
    rw [masks, and4, Nat.mul_div_cancel_left _ (by decide), show (4 * masks 1 r + 1) / 4 = masks 1 r by omega] at hp
    obtain ⟨h1, h2⟩ := ih r (by omega) (by omega)
    refine ⟨by omega, fun z hz => ?_⟩
    by_cases e : z = k
    · subst e; rw [mi_of hM]; rw [h1] at *; exact ba_inj he
    · exact h2 z (by omega)
  | @left p i j k h hM ih =>
    intro r hr hp
    obtain ⟨r, rfl⟩ : ∃ q, r = q + 1 := ⟨r - 1, by omega⟩
    rw [masks, and4, show (4 * p + 1) % 4 = 1 by omega, show (4 * masks 1 r + 1) % 4 = 1 by omega] at hp
    have : (1 &&& 1 : Nat) = 1 := by decide
    omega
  | @right p i j k h hM ih =>
    intro r hr hp
    obtain ⟨r, rfl⟩ : ∃ q, r = q + 1 := ⟨r - 1, by omega⟩
    rw [masks, and4, show (4 * p + 2) / 4 = p by omega, show (4 * masks 1 r + 1) / 4 = masks 1 r by omega] at hp
    obtain ⟨h1, h2⟩ := ih r (by omega) (by omega)
    refine ⟨by omega, fun z hz => ?_⟩
    by_cases e : z = k
    · subst e; rw [mi_of hM]; rw [h1]
    · exact h2 z (by omega)

theorem Bk.noRight {p i j k : Nat} (h : Bk f fc g gc M p i j k) : ∀ r, k ≤ r → p &&& masks 2 r = 0 → k = i ∧ (∀ z, z < k → mi M z = f z) := by
  induction h with
  | nil => intro r _ _; exact ⟨rfl, fun z hz => by omega⟩
  | @both p i j k h he hM ih =>
    intro r hr hp
    obtain ⟨r, rfl⟩ : ∃ q, r = q + 1 := ⟨r - 1, by omega⟩
    rw [masks, and4, Nat.mul_div_cancel_left _ (by decide), show (4 * masks 2 r + 2) / 4 = masks 2 r by omega] at hp
    obtain ⟨h1, h2⟩ := ih r (by omega) (by omega)
    refine ⟨by omega, fun z hz => ?_⟩
    by_cases e : z = k
    · subst e; rw [mi_of hM]; rw [h1]
    · exact h2 z (by omega)
  | @right p i j k h hM ih =>
    intro r hr hp
    obtain ⟨r, rfl⟩ : ∃ q, r = q + 1 := ⟨r - 1, by omega⟩
    rw [masks, and4, show (4 * p + 2) % 4 = 2 by omega, show (4 * masks 2 r + 2) % 4 = 2 by omega] at hp
    have : (2 &&& 2 : Nat) = 2 := by decide
    omega
  | @left p i j k h hM ih =>
    intro r hr hp
    obtain ⟨r, rfl⟩ : ∃ q, r = q + 1 := ⟨r - 1, by omega⟩
    rw [masks, and4, show (4 * p + 1) / 4 = p by omega, show (4 * masks 2 r + 2) / 4 = masks 2 r by omega] at hp
    obtain ⟨h1, h2⟩ := ih r (by omega) (by omega)
    refine ⟨by omega, fun z hz => ?_⟩
    by_cases e : z = k
    · subst e; rw [mi_of hM]; rw [h1]
    · exact h2 z (by omega)

theorem masks1 : masks 1 32 = 6148914691236517205 := by decide
theorem masks2 : masks 2 32 = 12297829382473034410 := by decide

/-! #### One side holds every id of the other: the long side's counters, the short side's from the back -/
inductive Os (a b : Nat → Int) (M : List Ent) : Nat → Nat → Nat → Prop
  | nil : Os a b M 0 0 0
  | both {p s z : Nat} (h : Os a b M p s z) (hM : mc M z = max (a z) (b s)) : Os a b M (4 * p) (s + 1) (z + 1)
  | one {p s z d : Nat} (h : Os a b M p s z) (hd : d = 1 ∨ d = 2) (hM : mc M z = a z) : Os a b M (4 * p + d) s (z + 1)

theorem Os.last {a b : Nat → Int} {p s z : Nat} (h : Os a b M p s (z + 1)) :
    (p % 4 = 0 ∧ ∃ s', s = s' + 1 ∧ Os a b M (p / 4) s' z ∧ mc M z = max (a z) (b s')) ∨ ((p % 4 = 1 ∨ p % 4 = 2) ∧ Os a b M (p / 4) s z ∧ mc M z = a z) := by
  cases h with
  | both h hM => exact .inl ⟨by omega, _, rfl, by rw [Nat.mul_div_cancel_left _ (by decide)]; exact h, hM⟩
  | @one p s z d h hd hM => exact .inr ⟨by omega, by rw [show (4 * p + d) / 4 = p by omega]; exact h, hM⟩

theorem Os.zero {a b : Nat → Int} {p s z : Nat} (h : Os a b M p s z) : p = 0 → s = z ∧ ∀ x, x < z → mc M x = max (a x) (b x) := by
  induction h with
  | nil => intro _; exact ⟨rfl, fun x hx => by omega⟩
  | @both p s z h hM ih =>
    intro hp
    obtain ⟨h1, h2⟩ := ih (by omega)
    refine ⟨by omega, fun x hx => ?_⟩
    by_cases e : x = z
    · subst e; rw [hM, h1]
    · exact h2 x (by omega)
  | one h hd hM ih => intro hp; omega

theorem Bk.osW {p i j k : Nat} (h : Bk f fc g gc M p i j k) : ∀ r, k ≤ r → p &&& masks 1 r = 0 → Os gc fc M p i k := by
  induction h with
  | nil => intro r _ _; exact .nil
  | @both p i j k h he hM ih =>
    intro r hr hp
    obtain ⟨r, rfl⟩ : ∃ q, r = q + 1 := ⟨r - 1, by omega⟩
    have hk := ((Bk.both h he hM).noLeft (r + 1) hr hp).1
    rw [masks, and4, Nat.mul_div_cancel_left _ (by decide), show (4 * masks 1 r + 1) / 4 = masks 1 r by omega] at hp
    refine .both (ih r (by omega) (by omega)) ?_
    rw [mc_of hM, show j = k by omega]
    exact Int.max_comm _ _
  | @left p i j k h hM ih =>
    intro r hr hp
    obtain ⟨r, rfl⟩ : ∃ q, r = q + 1 := ⟨r - 1, by omega⟩
    rw [masks, and4, show (4 * p + 1) % 4 = 1 by omega, show (4 * masks 1 r + 1) % 4 = 1 by omega] at hp
    have : (1 &&& 1 : Nat) = 1 := by decide
    omega
  | @right p i j k h hM ih =>
    intro r hr hp
    obtain ⟨r, rfl⟩ : ∃ q, r = q + 1 := ⟨r - 1, by omega⟩
    have hk := ((Bk.right h hM).noLeft (r + 1) hr hp).1
    rw [masks, and4, show (4 * p + 2) / 4 = p by omega, show (4 * masks 1 r + 1) / 4 = masks 1 r by omega] at hp
    refine .one (ih r (by omega) (by omega)) (.inr rfl) ?_
    rw [mc_of hM, show j = k by omega]

theorem Bk.osV {p i j k : Nat} (h : Bk f fc g gc M p i j k) : ∀ r, k ≤ r → p &&& masks 2 r = 0 → Os fc gc M p j k := by
  induction h with
  | nil => intro r _ _; exact .nil
  | @both p i j k h he hM ih =>
    intro r hr hp
    obtain ⟨r, rfl⟩ : ∃ q, r = q + 1 := ⟨r - 1, by omega⟩
    have hk := ((Bk.both h he hM).noRight (r + 1) hr hp).1
    rw [masks, and4, Nat.mul_div_cancel_left _ (by decide), show (4 * masks 2 r + 2) / 4 = masks 2 r by omega] at hp
    refine .both (ih r (by omega) (by omega)) ?_
    rw [mc_of hM, show i = k by omega]
  | @right p i j k h hM ih =>
    intro r hr hp
    obtain ⟨r, rfl⟩ : ∃ q, r = q + 1 := ⟨r - 1, by omega⟩
    rw [masks, and4, show (4 * p + 2) % 4 = 2 by omega, show (4 * masks 2 r + 2) % 4 = 2 by omega] at hp
    have : (2 &&& 2 : Nat) = 2 := by decide
    omega
  | @left p i j k h hM ih =>
    intro r hr hp
    obtain ⟨r, rfl⟩ : ∃ q, r = q + 1 := ⟨r - 1, by omega⟩
    have hk := ((Bk.left h hM).noRight (r + 1) hr hp).1
    rw [masks, and4, show (4 * p + 1) / 4 = p by omega, show (4 * masks 2 r + 2) / 4 = masks 2 r by omega] at hp
    refine .one (ih r (by omega) (by omega)) (.inl rfl) ?_
    rw [mc_of hM, show i = k by omega]
end
end Go.Proofs.Qxb6601531a
