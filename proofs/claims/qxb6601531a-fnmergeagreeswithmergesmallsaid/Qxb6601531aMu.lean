import Derived.Test.Qxb6601531aPlain
namespace Go.Proofs.Qxb6601531a

/-! ### Plain: the merge of two lists of entries -/
abbrev Ent := ByteArray × Int

def muAux (a : Ent) (V : List Ent) (r : List Ent → List Ent) : List Ent → List Ent
  | [] => a :: V
  | b :: W => if a.1.toList = b.1.toList then (a.1, max a.2 b.2) :: r W else if a.1.toList < b.1.toList then a :: r (b :: W) else b :: muAux a V r W
/-- The sparse pointwise maximum of two lists of entries in order. -/
def mu : List Ent → List Ent → List Ent
  | [] => fun W => W
  | a :: V => muAux a V (mu V)

theorem mu_nil (W : List Ent) : mu [] W = W := rfl
theorem mu_nil_right (V : List Ent) : mu V [] = V := by cases V <;> rfl
theorem mu_eq {a b : Ent} {V W : List Ent} (h : a.1.toList = b.1.toList) : mu (a :: V) (b :: W) = (a.1, max a.2 b.2) :: mu V W := by
  show muAux a V (mu V) (b :: W) = _
  rw [muAux, if_pos h]
theorem mu_lt {a b : Ent} {V W : List Ent} (h : a.1.toList < b.1.toList) : mu (a :: V) (b :: W) = a :: mu V (b :: W) := by
  show muAux a V (mu V) (b :: W) = _
  rw [muAux, if_neg (fun e => klt_irrefl _ (e ▸ h)), if_pos h]
theorem mu_gt {a b : Ent} {V W : List Ent} (h : b.1.toList < a.1.toList) : mu (a :: V) (b :: W) = b :: mu (a :: V) W := by
  show muAux a V (mu V) (b :: W) = _
  rw [muAux, if_neg (fun e => klt_irrefl _ (e ▸ h)), if_neg (fun h' => klt_irrefl _ (klt_trans h h'))]
  rfl

/-- The entries from place i on. -/
def ents (f : Nat → ByteArray) (fc : Nat → Int) (n i : Nat) : List Ent := ((List.range n).drop i).map fun x => (f x, fc x)

theorem ents_cons {f : Nat → ByteArray} {fc : Nat → Int} {n i : Nat} (h : i < n) : ents f fc n i = (f i, fc i) :: ents f fc n (i + 1) := by
  unfold ents
  rw [List.drop_eq_getElem_cons (by simpa using h)]
  simp
theorem ents_nil {f : Nat → ByteArray} {fc : Nat → Int} {n i : Nat} (h : n ≤ i) : ents f fc n i = [] := by
  unfold ents
  rw [List.drop_of_length_le (by simpa using h)]
  rfl
theorem ents_length (f : Nat → ByteArray) (fc : Nat → Int) (n i : Nat) : (ents f fc n i).length = n - i := by simp [ents]
theorem ents_get {f : Nat → ByteArray} {fc : Nat → Int} {n i t : Nat} (h : i + t < n) : (ents f fc n i)[t]? = some (f (i + t), fc (i + t)) := by
  unfold ents
  simp [h]

/-- The first q entries from place i on. -/
def seg (f : Nat → ByteArray) (fc : Nat → Int) (i q : Nat) : List Ent := (List.range q).map fun t => (f (i + t), fc (i + t))
theorem seg_length (f : Nat → ByteArray) (fc : Nat → Int) (i q : Nat) : (seg f fc i q).length = q := by simp [seg]
theorem seg_get {f : Nat → ByteArray} {fc : Nat → Int} {i q t : Nat} (h : t < q) : (seg f fc i q)[t]? = some (f (i + t), fc (i + t)) := by simp [seg, h]
theorem seg_succ (f : Nat → ByteArray) (fc : Nat → Int) (i q : Nat) : seg f fc i (q + 1) = (f i, fc i) :: seg f fc (i + 1) q := by
  apply List.ext_getElem?
  intro t
  cases t with
  | zero => rw [seg_get (by omega)]; rfl
  | succ t =>
    rw [List.getElem?_cons_succ]
    by_cases h : t < q
    · rw [seg_get (by omega), seg_get h, show i + (t + 1) = i + 1 + t by omega]
    · rw [List.getElem?_eq_none (by rw [seg_length]; omega), List.getElem?_eq_none (by rw [seg_length]; omega)]
theorem ents_seg (f : Nat → ByteArray) (fc : Nat → Int) (n i : Nat) : ents f fc n i = seg f fc i (n - i) := by
  apply List.ext_getElem?
  intro t
  by_cases h : i + t < n
  · rw [ents_get h, seg_get (by omega)]
  · rw [List.getElem?_eq_none (by rw [ents_length]; omega), List.getElem?_eq_none (by rw [seg_length]; omega)]

theorem mu_run_left {f : Nat → ByteArray} {fc : Nat → Int} {n : Nat} {b : Ent} {W : List Ent} : ∀ (q i : Nat), i + q ≤ n → (∀ x, i ≤ x → x < i + q → (f x).toList < b.1.toList) →
    mu (ents f fc n i) (b :: W) = seg f fc i q ++ mu (ents f fc n (i + q)) (b :: W)
  | 0, i, _, _ => rfl
  | q + 1, i, h, hl => by
    rw [ents_cons (by omega), mu_lt (hl i (by omega) (by omega)), mu_run_left q (i + 1) (by omega) (fun x h1 h2 => hl x (by omega) (by omega)), seg_succ, show i + 1 + q = i + (q + 1) by omega]
    rfl

theorem mu_run_right {g : Nat → ByteArray} {gc : Nat → Int} {m : Nat} {a : Ent} {V : List Ent} : ∀ (q j : Nat), j + q ≤ m → (∀ x, j ≤ x → x < j + q → (g x).toList < a.1.toList) →
    mu (a :: V) (ents g gc m j) = seg g gc j q ++ mu (a :: V) (ents g gc m (j + q))
  | 0, j, _, _ => rfl
  | q + 1, j, h, hl => by
    rw [ents_cons (by omega), mu_gt (hl j (by omega) (by omega)), mu_run_right q (j + 1) (by omega) (fun x h1 h2 => hl x (by omega) (by omega)), seg_succ, show j + 1 + q = j + (q + 1) by omega]
    rfl

theorem mu_length_le : ∀ (V W : List Ent), (mu V W).length ≤ V.length + W.length
  | [], W => by simp [mu_nil]
  | a :: V, [] => by simp [mu_nil_right]
  | a :: V, b :: W => by
    rcases klt_tri a.1.toList b.1.toList with h | h | h
    · rw [mu_lt h]; have := mu_length_le V (b :: W); simp at this ⊢; omega
    · rw [mu_eq h]; have := mu_length_le V W; simp at this ⊢; omega
    · rw [mu_gt h]; have := mu_length_le (a :: V) W; simp at this ⊢; omega

/-- What is left of M at k is X ahead of Y. -/
theorem drop_app {M X Y : List Ent} {k : Nat} (h : M.drop k = X ++ Y) : (∀ (t : Nat) (x : Ent), X[t]? = some x → M[k + t]? = some x) ∧ M.drop (k + X.length) = Y := by
  refine ⟨fun t x ht => ?_, ?_⟩
  · have : (M.drop k)[t]? = some x := by rw [h, List.getElem?_append_left (List.getElem?_eq_some_iff.1 ht).1]; exact ht
    rwa [List.getElem?_drop] at this
  · rw [← List.drop_drop, h, List.drop_left]

def mi (M : List Ent) (x : Nat) : ByteArray := (M.getD x (⟨#[]⟩, 0)).1
def mc (M : List Ent) (x : Nat) : Int := (M.getD x (⟨#[]⟩, 0)).2
theorem mi_of {M : List Ent} {x : Nat} {p : Ent} (h : M[x]? = some p) : mi M x = p.1 := by simp [mi, h]
theorem mc_of {M : List Ent} {x : Nat} {p : Ent} (h : M[x]? = some p) : mc M x = p.2 := by simp [mc, h]

theorem ba_inj {a b : ByteArray} (h : a.toList = b.toList) : a = b := by
  rw [ByteArray.toList_eq, ByteArray.toList_eq] at h
  cases a; cases b; simp at h; rw [h]
end Go.Proofs.Qxb6601531a
