import Derived.Test.Qxb6601531aMerge
import Derived.Test.Qxb6601531aUnion
namespace Go.Proofs.Qxb6601531a
open Go.RowKit

/-- The two vectors' lists and the buffer, each in a block of its own. -/
structure Five (w : World) (bfi bfc bgi bgc bb n m L : Nat) (f : Nat → ByteArray) (fc : Nat → Int) (g : Nat → ByteArray) (gc ob : Nat → Int) : Prop where
  fi : w.rowIs bfi 9 n (fun i => .string (f i))
  fc : w.rowIs bfc 26 n (fun i => .int .u64 (fc i))
  gi : w.rowIs bgi 9 m (fun i => .string (g i))
  gc : w.rowIs bgc 26 m (fun i => .int .u64 (gc i))
  bu : w.rowIs bb 26 L (fun i => .int .u64 (ob i))
  ne : bfi ≠ bb ∧ bfc ≠ bb ∧ bgi ≠ bb ∧ bgc ≠ bb

/-- What merge answers, seen from ahead of the two boxes. -/
def MCw (w' : World) (bb bgi n m : Nat) (f g : Nat → ByteArray) (M : List Ent) (e : Ending) : Prop :=
  e = .returned (.tuple #[.slice (some ⟨bgi, 0, none⟩) m m, .slice none 0 0]) ∧ M.length = m ∧ (∀ y, y < m → mi M y = g y) ∧ (∀ x, x < n → ∃ y, y < m ∧ (f x).toList = (g y).toList) ∧ ∀ x, x < m → w'.cell? ⟨bb, x, none⟩ = some (.int .u64 (mc M x))
def MCx (w w' : World) (n m : Nat) (f g : Nat → ByteArray) (M : List Ent) (e : Ending) : Prop :=
  ∃ b1 o1 c1 b2 o2 c2, e = .returned (.tuple #[.slice (some ⟨b1, o1, none⟩) M.length c1, .slice (some ⟨b2, o2, none⟩) M.length c2]) ∧ w.heap.size ≤ b1 ∧ w.heap.size ≤ b2 ∧ (∀ i, i < M.length → w'.cell? ⟨b1, o1 + i, none⟩ = some (.string (mi M i))) ∧
    (∀ i, i < M.length → w'.cell? ⟨b2, o2 + i, none⟩ = some (.int .u64 (mc M i))) ∧ Lacks f n g m ∧ Lacks g m f n
structure MC (w w' : World) (bb L bfi bgi n m : Nat) (f g : Nat → ByteArray) (M : List Ent) (ob : Nat → Int) (e : Ending) : Prop where
  gr : w.grownBy w' (some bb)
  pl : PlainB w' bb
  tail : ∀ x, max n m ≤ x → x < L → w'.cell? ⟨bb, x, none⟩ = some (.int .u64 (ob x))
  is : MCw w' bb bgi n m f g M e ∨ MCw w' bb bfi m n g f M e ∨ MCx w w' n m f g M e

theorem mr_mc {w w2 w' : World} {bb L bfi bgi n m : Nat} {f g : Nat → ByteArray} {M : List Ent} {ob : Nat → Int} {e : Ending} (hw : w.grownBy w2 (some bb)) (hn : n ≤ L) (hm : m ≤ L) (h : MR w2 w' bb L bfi bgi n m f g M ob e) : MC w w' bb L bfi bgi n m f g M ob e := by
  rcases h with ⟨h1, h2, h3, h4, h5⟩ | ⟨h1, h2, h3, h4, h5⟩ | ⟨T, b1, o1, c1, b2, o2, c2, h1, h2, h3, h4, h5, h6⟩
  · exact ⟨grownBy_trans hw h5.gr, h5.pl, fun x hx hL => by rw [h5.cell x hL, if_neg (by omega)], .inl ⟨h1, h2, h3, h4, fun x hx => by rw [h5.cell x (by omega), if_pos hx]⟩⟩
  · exact ⟨grownBy_trans hw h5.gr, h5.pl, fun x hx hL => by rw [h5.cell x hL, if_neg (by omega)], .inr (.inl ⟨h1, h2, h3, h4, fun x hx => by rw [h5.cell x (by omega), if_pos hx]⟩)⟩
  · exact ⟨grownBy_trans hw h4.gr, h4.pl, h4.buf, .inr (.inr ⟨b1, o1, c1, b2, o2, c2, h1, Nat.le_trans hw.size h3.l1, Nat.le_trans hw.size h3.l2, h4.s, h4.u, h5, h6⟩)⟩

section
variable {w : World} {bfi bfc bgi bgc bb n m L : Nat} {f : Nat → ByteArray} {fc : Nat → Int} {g : Nat → ByteArray} {gc ob : Nat → Int}

/-- The world behind the two boxes. -/
def boxed (w : World) (bfi bfc bgi bgc n m : Nat) : World :=
  (w.alloc (Obj.cells #[Value.slice (some ⟨bfi, 0, none⟩) n n, Value.slice (some ⟨bfc, 0, none⟩) n n] 46)).alloc (Obj.cells #[Value.slice (some ⟨bgi, 0, none⟩) m m, Value.slice (some ⟨bgc, 0, none⟩) m m] 46)

theorem boxed_size : (boxed w bfi bfc bgi bgc n m).heap.size = w.heap.size + 2 := by simp [boxed]
theorem boxed_grown : w.grownBy (boxed w bfi bfc bgi bgc n m) (some bb) := grown_of_below (((Below.refl _ _).alloc (Nat.le_refl _) _).alloc (by simp) _)
theorem boxed_row {b t k : Nat} {F : Nat → Value} (h : w.rowIs b t k F) : (boxed w bfi bfc bgi bgc n m).rowIs b t k F := (h.alloc _).alloc _

theorem boxed_env (h : Five w bfi bfc bgi bgc bb n m L f fc g gc ob) : Env (boxed w bfi bfc bgi bgc n m) w.heap.size (w.heap.size + 1) bfi bfc bgi bgc n m f fc g gc := by
  have hA : (boxed w bfi bfc bgi bgc n m).heap[w.heap.size]? = some (Obj.cells #[Value.slice (some ⟨bfi, 0, none⟩) n n, Value.slice (some ⟨bfc, 0, none⟩) n n] 46) :=
    (Go.Deep.blk_alloc_lt _ _ _ (by simp)).trans (Go.Deep.blk_alloc_new _ _)
  have e : (w.alloc (Obj.cells #[Value.slice (some ⟨bfi, 0, none⟩) n n, Value.slice (some ⟨bfc, 0, none⟩) n n] 46)).heap.size = w.heap.size + 1 := by simp
  have hB : (boxed w bfi bfc bgi bgc n m).heap[w.heap.size + 1]? = some (Obj.cells #[Value.slice (some ⟨bgi, 0, none⟩) m m, Value.slice (some ⟨bgc, 0, none⟩) m m] 46) := by
    rw [← e]
    exact Go.Deep.blk_alloc_new _ _
  exact ⟨by simp [World.cell?, hA], by simp [World.cell?, hA], by simp [World.cell?, hB], by simp [World.cell?, hB], fun i hi => (boxed_row h.fi).cell hi, fun i hi => (boxed_row h.fc).cell hi, fun i hi => (boxed_row h.gi).cell hi, fun i hi => (boxed_row h.gc).cell hi⟩

theorem boxed_ap (h : Five w bfi bfc bgi bgc bb n m L f fc g gc ob) : Ap (boxed w bfi bfc bgi bgc n m) bb w.heap.size (w.heap.size + 1) bfi bfc bgi bgc := by
  have h1 := h.fi.lt
  have h2 := h.fc.lt
  have h3 := h.gi.lt
  have h4 := h.gc.lt
  have h5 := h.bu.lt
  obtain ⟨e1, e2, e3, e4⟩ := h.ne
  unfold Ap
  rw [boxed_size]
  refine ⟨⟨?_, ?_⟩, ⟨?_, ?_⟩, ⟨?_, e1⟩, ⟨?_, e2⟩, ⟨?_, e3⟩, ⟨?_, e4⟩⟩ <;> omega

theorem boxed_buf (h : Five w bfi bfc bgi bgc bb n m L f fc g gc ob) (M : List Ent) : Buf (boxed w bfi bfc bgi bgc n m) (boxed w bfi bfc bgi bgc n m) bb L M ob 0 := by
  have hb := boxed_row (bfi := bfi) (bfc := bfc) (bgi := bgi) (bgc := bgc) (n := n) (m := m) h.bu
  refine ⟨fun x hx => by rw [hb.cell hx]; simp, fun x _ => hb.frozen x, ⟨rfl, rfl, rfl, Nat.le_refl _, fun _ _ _ => rfl⟩, rfl, ?_⟩
  obtain ⟨c, hc, _⟩ := hb
  exact ⟨c, 26, hc⟩
end

set_option maxRecDepth 100000 in
set_option maxHeartbeats 4000000 in
theorem zzMerge (bfi bfc bgi bgc n m bb L : Nat) (f : Nat → ByteArray) (fc : Nat → Int) (g : Nat → ByteArray) (gc : Nat → Int) (ob : Nat → Int) (w : World) (M : List Ent) (hM : Hid (M = mu (ents f fc n 0) (ents g gc m 0)))
    (h : Five w bfi bfc bgi bgc bb n m L f fc g gc ob) (hn : 0 < n) (hm : 0 < m) (hnL : n ≤ L) (hmL : m ≤ L) (hL : L ≤ 1048576) (hnm : n + m ≤ 1048576) (sf : Hid (Sorted f n)) (sg : Hid (Sorted g m)) :
    Calls Try.prog 23 #[.slice (some ⟨bfi, 0, none⟩) n n, .slice (some ⟨bfc, 0, none⟩) n n, .slice (some ⟨bgi, 0, none⟩) m m, .slice (some ⟨bgc, 0, none⟩) m m, .slice (some ⟨bb, 0, none⟩) L L] w fun e w' => MC w w' bb L bfi bgi n m f g M ob e := by
  have HM := merge_any w.heap.size (w.heap.size + 1) bfi bfc bgi bgc n m bb L f fc g gc ob (boxed w bfi bfc bgi bgc n m) M hM (boxed_env h) hn hm hnL hmL hL (boxed_ap h) sf sg (boxed_buf h M) (by rw [boxed_size]; have := h.bu.lt; omega) hnm
  go_enter Try.func23, Try.ntmps23
  go_wp2_with fail
  refine HM.mono ?_
  intro e w' hMR
  have hMC : Hid (MC w w' bb L bfi bgi n m f g M ob e) := mr_mc boxed_grown hnL hmL hMR
  rcases hMR with ⟨rfl, _⟩ | ⟨rfl, _⟩ | ⟨T, b1, o1, c1, b2, o2, c2, rfl, _⟩
  all_goals
    go_wp2
    go_ret2
    exact hMC.out
end Go.Proofs.Qxb6601531a
