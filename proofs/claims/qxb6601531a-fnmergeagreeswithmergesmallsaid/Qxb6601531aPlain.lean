import Derived.WalkKit
namespace Go.Proofs.Qxb6601531a

/-! ### Plain facts on ids: strings ordered by their bytes -/

abbrev Key := List UInt8

/-- The model's order on strings is the lexical order of their bytes. -/
theorem less_eq : ∀ (x y : List UInt8), Op.bytesLess x y = decide (x < y)
  | [], [] => by simp [Op.bytesLess]
  | _ :: _, [] => by simp [Op.bytesLess]
  | [], _ :: _ => by simp [Op.bytesLess]
  | a :: x, b :: y => by
    rw [Op.bytesLess, less_eq x y]
    simp only [List.cons_lt_cons_iff]
    by_cases h1 : a < b <;> by_cases h2 : a = b <;> by_cases h3 : x < y <;> simp [h1, h2, h3]

theorem less_iff (x y : Key) : Op.bytesLess x y = true ↔ x < y := by rw [less_eq]; simp
theorem less_not (x y : Key) : Op.bytesLess x y = false ↔ ¬ x < y := by rw [less_eq]; simp

/-- The strings f 0 .. f (n-1) climb strictly. -/
def Sorted (f : Nat → ByteArray) (n : Nat) : Prop := ∀ i, i + 1 < n → Op.bytesLess (f i).toList (f (i + 1)).toList = true

theorem klt_trans {x y z : Key} (h : x < y) (k : y < z) : x < z := List.lt_trans h k
theorem klt_irrefl (x : Key) : ¬ x < x := List.lt_irrefl x
theorem klt_tri (x y : Key) : x < y ∨ x = y ∨ y < x := by
  by_cases h : x < y
  · exact .inl h
  · by_cases k : y < x
    · exact .inr (.inr k)
    · exact .inr (.inl (List.le_antisymm (List.not_lt.1 k) (List.not_lt.1 h)))

theorem Sorted.lt {f : Nat → ByteArray} {n : Nat} (h : Sorted f n) : ∀ {j i : Nat}, i < j → j < n → (f i).toList < (f j).toList := by
  intro j
  induction j with
  | zero => intro i hi; omega
  | succ j ih =>
    intro i hi hj
    have hs := (less_iff _ _).1 (h j hj)
    by_cases e : i = j
    · rw [e]; exact hs
    · exact klt_trans (ih (by omega) (by omega)) hs

theorem Sorted.inj {f : Nat → ByteArray} {n : Nat} (h : Sorted f n) {i j : Nat} (hi : i < n) (hj : j < n) (e : (f i).toList = (f j).toList) : i = j := by
  rcases Nat.lt_trichotomy i j with k | k | k
  · exact absurd (e ▸ h.lt k hj) (klt_irrefl _)
  · exact k
  · exact absurd (e ▸ h.lt k hi) (klt_irrefl _)

/-- The place of x among f 0 .. f (n-1), or -1. -/
def fnd (f : Nat → ByteArray) (x : ByteArray) : Nat → Int
  | 0 => -1
  | n + 1 => if (f n).toList = x.toList then n else fnd f x n

theorem fnd_none {f : Nat → ByteArray} {x : ByteArray} : ∀ {n : Nat}, (∀ i, i < n → (f i).toList ≠ x.toList) → fnd f x n = -1 := by
  intro n
  induction n with
  | zero => intro _; rfl
  | succ n ih => intro h; rw [fnd, if_neg (h n (by omega))]; exact ih fun i hi => h i (by omega)

theorem fnd_some {f : Nat → ByteArray} {x : ByteArray} {n i : Nat} (hs : Sorted f n) (hi : i < n) (h : (f i).toList = x.toList) : fnd f x n = i := by
  have key : ∀ m, i < m → m ≤ n → fnd f x m = i := by
    intro m
    induction m with
    | zero => intro h; omega
    | succ m ih =>
      intro h1 h2
      rw [fnd]
      by_cases e : i = m
      · subst e; rw [if_pos h]
      · rw [if_neg (fun h' => e (hs.inj hi (by omega) (h.trans h'.symm)))]; exact ih (by omega) (by omega)
  exact key n hi (Nat.le_refl _)

theorem fnd_cases (f : Nat → ByteArray) (x : ByteArray) (n : Nat) : (fnd f x n = -1 ∧ ∀ i, i < n → (f i).toList ≠ x.toList) ∨ (∃ i : Nat, i < n ∧ fnd f x n = i ∧ (f i).toList = x.toList) := by
  induction n with
  | zero => exact .inl ⟨rfl, fun i hi => by omega⟩
  | succ n ih =>
    rw [fnd]
    by_cases h : (f n).toList = x.toList
    · rw [if_pos h]; exact .inr ⟨n, by omega, rfl, h⟩
    · rw [if_neg h]
      rcases ih with ⟨h1, h2⟩ | ⟨i, h1, h2, h3⟩
      · refine .inl ⟨h1, fun i hi => ?_⟩
        by_cases e : i = n
        · rw [e]; exact h
        · exact h2 i (by omega)
      · exact .inr ⟨i, by omega, h2, h3⟩
end Go.Proofs.Qxb6601531a
