import Derived.Test.Qxb6601531aMu
namespace Go.Proofs.Qxb6601531a

/-! ### Plain: what merge's first walk keeps -/
section
variable {f g : Nat → ByteArray} {fc gc : Nat → Int} {n m : Nat}

/-- v, or w, has an id that the other lacks. -/
def Lacks (f : Nat → ByteArray) (n : Nat) (g : Nat → ByteArray) (m : Nat) : Prop := ∃ x, x < n ∧ ∀ y, y < m → (f x).toList ≠ (g y).toList

structure MI (f : Nat → ByteArray) (fc : Nat → Int) (n : Nat) (g : Nat → ByteArray) (gc : Nat → Int) (m : Nat) (M : List Ent) (vo wo : Bool) (i j k : Nat) : Prop where
  hi : i ≤ n
  hj : j ≤ m
  rest : M.drop k = mu (ents f fc n i) (ents g gc m j)
  kle : k ≤ M.length
  fv : ∀ x, x < i → j < m → (f x).toList < (g j).toList
  fw : ∀ y, y < j → i < n → (g y).toList < (f i).toList
  v0 : vo = false → k = j ∧ (∀ y, y < j → mi M y = g y) ∧ ∀ x, x < i → ∃ y, y < m ∧ (f x).toList = (g y).toList
  w0 : wo = false → k = i ∧ (∀ x, x < i → mi M x = f x) ∧ ∀ y, y < j → ∃ x, x < n ∧ (g y).toList = (f x).toList
  v1 : vo = true → j < i ∧ Lacks f n g m
  w1 : wo = true → i < j ∧ Lacks g m f n
  one : ¬ (vo = true ∧ wo = true)

variable {M : List Ent} {vo wo : Bool} {i j k : Nat}

theorem mi_start : MI f fc n g gc m (mu (ents f fc n 0) (ents g gc m 0)) false false 0 0 0 :=
  ⟨Nat.zero_le _, Nat.zero_le _, rfl, Nat.zero_le _, fun x hx => by omega, fun y hy => by omega, fun _ => ⟨rfl, fun y hy => by omega, fun x hx => by omega⟩, fun _ => ⟨rfl, fun x hx => by omega, fun y hy => by omega⟩,
    fun h => (by cases h), fun h => (by cases h), fun h => (by cases h.1)⟩

theorem MI.getEq (h : MI f fc n g gc m M vo wo i j k) (hi : i < n) (hj : j < m) (he : (f i).toList = (g j).toList) : M[k]? = some (f i, max (fc i) (gc j)) ∧ M.drop (k + 1) = mu (ents f fc n (i + 1)) (ents g gc m (j + 1)) := by
  have hr : M.drop k = [(f i, max (fc i) (gc j))] ++ mu (ents f fc n (i + 1)) (ents g gc m (j + 1)) := by rw [h.rest, ents_cons hi, ents_cons hj, mu_eq he]; rfl
  have := drop_app hr
  exact ⟨this.1 0 _ rfl, this.2⟩

theorem lt_of_get {M : List Ent} {x : Nat} {p : Ent} (h : M[x]? = some p) : x < M.length := (List.getElem?_eq_some_iff.1 h).1

theorem MI.eq (h : MI f fc n g gc m M vo wo i j k) (sf : Sorted f n) (sg : Sorted g m) (hi : i < n) (hj : j < m) (he : (f i).toList = (g j).toList) : MI f fc n g gc m M vo wo (i + 1) (j + 1) (k + 1) := by
  obtain ⟨h1, h2⟩ := h.getEq hi hj he
  have hl := lt_of_get h1
  refine ⟨by omega, by omega, h2, by omega, fun x hx hj' => ?_, fun y hy hi' => ?_, fun hv => ?_, fun hw => ?_, fun hv => ?_, fun hw => ?_, h.one⟩
  · by_cases e : x = i
    · rw [e, he]; exact sg.lt (by omega) hj'
    · exact klt_trans (h.fv x (by omega) hj) (sg.lt (by omega) hj')
  · by_cases e : y = j
    · rw [e, ← he]; exact sf.lt (by omega) hi'
    · exact klt_trans (h.fw y (by omega) hi) (sf.lt (by omega) hi')
  · obtain ⟨a, b, c⟩ := h.v0 hv
    refine ⟨by omega, fun y hy => ?_, fun x hx => ?_⟩
    · by_cases e : y = j
      · subst e; rw [← a, mi_of h1, a]; exact ba_inj he
      · exact b y (by omega)
    · by_cases e : x = i
      · exact ⟨j, hj, e ▸ he⟩
      · exact c x (by omega)
  · obtain ⟨a, b, c⟩ := h.w0 hw
    refine ⟨by omega, fun x hx => ?_, fun y hy => ?_⟩
    · by_cases e : x = i
      · subst e; rw [← a, mi_of h1, a]
      · exact b x (by omega)
    · by_cases e : y = j
      · exact ⟨i, hi, e ▸ he.symm⟩
      · exact c y (by omega)
  · exact ⟨by have := (h.v1 hv).1; omega, (h.v1 hv).2⟩
  · exact ⟨by have := (h.w1 hw).1; omega, (h.w1 hw).2⟩

theorem MI.lacksV (h : MI f fc n g gc m M vo wo i j k) (sg : Sorted g m) (hi : i < n) (hl : j < m → (f i).toList < (g j).toList) : Lacks f n g m := by
  refine ⟨i, hi, fun y hy e => ?_⟩
  by_cases hyj : y < j
  · have := h.fw y hyj hi; rw [e] at this; exact klt_irrefl _ this
  · have h1 := hl (by omega)
    by_cases e2 : y = j
    · rw [e2] at e; rw [e] at h1; exact klt_irrefl _ h1
    · have := sg.lt (show j < y by omega) hy
      rw [← e] at this
      exact klt_irrefl _ (klt_trans h1 this)

theorem MI.lacksW (h : MI f fc n g gc m M vo wo i j k) (sf : Sorted f n) (hj : j < m) (hl : i < n → (g j).toList < (f i).toList) : Lacks g m f n := by
  refine ⟨j, hj, fun x hx e => ?_⟩
  by_cases hxi : x < i
  · have := h.fv x hxi hj; rw [← e] at this; exact klt_irrefl _ this
  · have h1 := hl (by omega)
    by_cases e2 : x = i
    · rw [e2] at e; rw [e] at h1; exact klt_irrefl _ h1
    · have := sf.lt (show i < x by omega) hx
      rw [← e] at this
      exact klt_irrefl _ (klt_trans h1 this)

theorem MI.getV (h : MI f fc n g gc m M vo wo i j k) (hj : j < m) {q : Nat} (hq : i < q) (hqn : q ≤ n) (hr : ∀ x, i ≤ x → x < q → (f x).toList < (g j).toList) :
    (∀ t, t < q - i → M[k + t]? = some (f (i + t), fc (i + t))) ∧ M.drop (k + (q - i)) = mu (ents f fc n q) (ents g gc m j) := by
  have hh : M.drop k = seg f fc i (q - i) ++ mu (ents f fc n q) (ents g gc m j) := by
    rw [h.rest, ents_cons hj, mu_run_left (q - i) i (by omega) (fun x h1 h2 => hr x h1 (by omega)), show i + (q - i) = q by omega]
  have := drop_app hh
  rw [seg_length] at this
  exact ⟨fun t ht => this.1 t _ (seg_get ht), this.2⟩

theorem MI.getW (h : MI f fc n g gc m M vo wo i j k) (hi : i < n) {q : Nat} (hq : j < q) (hqn : q ≤ m) (hr : ∀ x, j ≤ x → x < q → (g x).toList < (f i).toList) :
    (∀ t, t < q - j → M[k + t]? = some (g (j + t), gc (j + t))) ∧ M.drop (k + (q - j)) = mu (ents f fc n i) (ents g gc m q) := by
  have hh : M.drop k = seg g gc j (q - j) ++ mu (ents f fc n i) (ents g gc m q) := by
    rw [h.rest, ents_cons hi, mu_run_right (q - j) j (by omega) (fun x h1 h2 => hr x h1 (by omega)), show j + (q - j) = q by omega]
  have := drop_app hh
  rw [seg_length] at this
  exact ⟨fun t ht => this.1 t _ (seg_get ht), this.2⟩

theorem MI.runV (h : MI f fc n g gc m M vo false i j k) (sf : Sorted f n) (sg : Sorted g m) (hi : i < n) (hj : j < m) {q : Nat} (hq : i < q) (hqn : q ≤ n) (hr : ∀ x, i ≤ x → x < q → (f x).toList < (g j).toList) :
    MI f fc n g gc m M true false q j (k + (q - i)) := by
  obtain ⟨h1, h2⟩ := h.getV hj hq hqn hr
  have hl := lt_of_get (h1 (q - i - 1) (by omega))
  obtain ⟨a, b, c⟩ := h.w0 rfl
  refine ⟨hqn, h.hj, h2, by omega, fun x hx hj' => ?_, fun y hy hi' => ?_, fun hv => (by cases hv), fun hw => ⟨by omega, fun x hx => ?_, c⟩, fun _ => ⟨?_, h.lacksV sg hi (fun _ => hr i (by omega) hq)⟩, fun hw => (by cases hw), fun hh => (by cases hh.2)⟩
  · by_cases e : x < i
    · exact h.fv x e hj'
    · exact hr x (by omega) hx
  · exact klt_trans (h.fw y hy hi) (sf.lt hq hi')
  · by_cases e : x < i
    · exact b x e
    · have := h1 (x - i) (by omega)
      rw [show k + (x - i) = x by omega, show i + (x - i) = x by omega] at this
      exact mi_of this
  · cases vo with
    | true => have := (h.v1 rfl).1; omega
    | false => have := (h.v0 rfl).1; omega

theorem MI.runW (h : MI f fc n g gc m M false wo i j k) (sf : Sorted f n) (sg : Sorted g m) (hi : i < n) (hj : j < m) {q : Nat} (hq : j < q) (hqn : q ≤ m) (hr : ∀ x, j ≤ x → x < q → (g x).toList < (f i).toList) :
    MI f fc n g gc m M false true i q (k + (q - j)) := by
  obtain ⟨h1, h2⟩ := h.getW hi hq hqn hr
  have hl := lt_of_get (h1 (q - j - 1) (by omega))
  obtain ⟨a, b, c⟩ := h.v0 rfl
  refine ⟨h.hi, hqn, h2, by omega, fun x hx hj' => ?_, fun y hy hi' => ?_, fun hv => ⟨by omega, fun x hx => ?_, c⟩, fun hw => (by cases hw), fun hv => (by cases hv), fun _ => ⟨?_, h.lacksW sf hj (fun _ => hr j (by omega) hq)⟩, fun hh => (by cases hh.1)⟩
  · exact klt_trans (h.fv x hx hj) (sg.lt hq hj')
  · by_cases e : y < j
    · exact h.fw y e hi'
    · exact hr y (by omega) hy
  · by_cases e : x < j
    · exact b x e
    · have := h1 (x - j) (by omega)
      rw [show k + (x - j) = x by omega, show j + (x - j) = x by omega] at this
      exact mi_of this
  · cases wo with
    | true => have := (h.w1 rfl).1; omega
    | false => have := (h.w0 rfl).1; omega

/-- v has run out and has shown no id of its own: the rest is w's. -/
theorem MI.endW (h : MI f fc n g gc m M false wo n j k) : M.length = m ∧ (∀ t, t < m - j → M[k + t]? = some (g (j + t), gc (j + t))) ∧ (∀ y, y < m → mi M y = g y) ∧ ∀ x, x < n → ∃ y, y < m ∧ (f x).toList = (g y).toList := by
  obtain ⟨a, b, c⟩ := h.v0 rfl
  have hh : M.drop k = seg g gc j (m - j) ++ [] := by rw [h.rest, ents_nil (Nat.le_refl _), mu_nil, ents_seg, List.append_nil]
  have hd := drop_app hh
  rw [seg_length] at hd
  have hlen : M.length = m := by
    have := congrArg List.length hh
    simp [seg_length] at this
    have := h.hj
    have := h.kle
    omega
  refine ⟨hlen, fun t ht => hd.1 t _ (seg_get ht), fun y hy => ?_, c⟩
  by_cases e : y < j
  · exact b y e
  · have := hd.1 (y - j) _ (seg_get (by omega))
    rw [show k + (y - j) = y by omega, show j + (y - j) = y by omega] at this
    exact mi_of this

theorem MI.endV (h : MI f fc n g gc m M vo false i m k) : M.length = n ∧ (∀ t, t < n - i → M[k + t]? = some (f (i + t), fc (i + t))) ∧ (∀ x, x < n → mi M x = f x) ∧ ∀ y, y < m → ∃ x, x < n ∧ (g y).toList = (f x).toList := by
  obtain ⟨a, b, c⟩ := h.w0 rfl
  have hh : M.drop k = seg f fc i (n - i) ++ [] := by rw [h.rest, ents_nil (f := g) (Nat.le_refl m), mu_nil_right, ents_seg, List.append_nil]
  have hd := drop_app hh
  rw [seg_length] at hd
  have hlen : M.length = n := by
    have := congrArg List.length hh
    simp [seg_length] at this
    have := h.hi
    have := h.kle
    omega
  refine ⟨hlen, fun t ht => hd.1 t _ (seg_get ht), fun x hx => ?_, c⟩
  by_cases e : x < i
  · exact b x e
  · have := hd.1 (x - i) _ (seg_get (by omega))
    rw [show k + (x - i) = x by omega, show i + (x - i) = x by omega] at this
    exact mi_of this
end
end Go.Proofs.Qxb6601531a
