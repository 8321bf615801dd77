import Derived.Test.Qxb6601531aMergeP
import Derived.Deep.LoopGhost
import Derived.Deep.DeepCutAuto
import Derived.Deep.CutBlock
import Derived.BigRegion
import Derived.Deep.RegionWith
import Derived.Lib.MinMax
import Derived.Deep.RegionHeld3
namespace Go.Proofs.Qxb6601531a
open Go.RowKit

set_option maxRecDepth 100000 in
set_option maxHeartbeats 40000000 in
theorem merge_any (bv bw bfi bfc bgi bgc n m bb L : Nat) (f : Nat → ByteArray) (fc : Nat → Int) (g : Nat → ByteArray) (gc : Nat → Int) (ob : Nat → Int) (w : World) (M : List Ent) (hM : Hid (M = mu (ents f fc n 0) (ents g gc m 0)))
    (E : Env w bv bw bfi bfc bgi bgc n m f fc g gc) (hn : 0 < n) (hm : 0 < m) (hnL : n ≤ L) (hmL : m ≤ L) (hL : L ≤ 1048576) (hA : Ap w bb bv bw bfi bfc bgi bgc) (sf : Hid (Sorted f n)) (sg : Hid (Sorted g m))
    (hb : Buf w w bb L M ob 0) (hbb : bb < w.heap.size) (hnm : n + m ≤ 1048576) :
    Calls Try.prog 33 #[.pointer (some ⟨bv, 0, none⟩), .pointer (some ⟨bw, 0, none⟩), .slice (some ⟨bb, 0, none⟩) L L] w fun e w' => MR w w' bb L bfi bgi n m f g M ob e := by
  have e1 := E.pv0
  have e2 := E.pw0
  have e3 := E.vi 0 hn
  have e4 := E.wi 0 hm
  have i1 : (0 : Int) < n := by omega
  have i2 : (0 : Int) < m := by omega
  go_enter Try.func33, Try.ntmps33
  go_wp2
  go_step3
  go_wp2
  go_quiet ((go_at_call 37; exact Calls.quiet_of_same (compareIDs _ _ _)))
  go_wp2
  go_step3
  clear e1 e2 e3 e4 i1 i2
  go_upto_block 0 with fail
  go_cut [8, 9, 11, 12, 13] (fun vo wo i j k wc => ∃ (VO WO : Bool) (I J K : Nat), vo = .bool VO ∧ wo = .bool WO ∧ i = .int .i64 I ∧ j = .int .i64 J ∧ k = .int .i64 K ∧ Buf w wc bb L M ob K ∧
    ((MI f fc n g gc m M VO WO I J K ∧ (I = n ∨ J = m)) ∨ (VO = true ∧ WO = true ∧ I < n ∧ J < m ∧ ((MI f fc n g gc m M true false I J K ∧ Lacks g m f n) ∨ (MI f fc n g gc m M false true I J K ∧ Lacks f n g m)))))
  case first =>
    as_aux_lemma =>
      go_wp2_with fail
      go_loopw [8, 9, 10, 11, 12, 13, 14] (fun vo wo r i j k c wr => ∃ (VO WO R : Bool) (I J K : Nat), vo = .bool VO ∧ wo = .bool WO ∧ r = .bool R ∧ i = .int .i64 I ∧ j = .int .i64 J ∧ k = .int .i64 K ∧ c = .int .i64 (cmpI (f I) (g J)) ∧ I < n ∧ J < m ∧ Buf w wr bb L M ob K ∧ MI f fc n g gc m M VO WO I J K)
        (fun _ _ _ i j _ _ _ => (n - (intOf i).toNat) + (m - (intOf j).toNat))
      case atStart => exact ⟨false, false, false, 0, 0, 0, rfl, rfl, rfl, rfl, rfl, rfl, rfl, hn, hm, hb.drewN _, hM.out ▸ mi_start⟩
      case round =>
        clear hb
        obtain ⟨VO, WO, R, I, J, K, rfl, rfl, rfl, rfl, rfl, rfl, rfl, hI, hJ, hB, hMI⟩ := hrel
        have EE := E.kept hA hB.gr
        rcases klt_tri (f I).toList (g J).toList with hlt | heq | hgt
        · as_aux_lemma =>
            have hc : cmpI (f I) (g J) = -1 := by unfold cmpI; rw [if_neg (fun e => klt_irrefl _ (e ▸ hlt)), if_pos hlt]
            cases WO with
            | true =>
              go_wp2
              go_meet
              case rel => exact ⟨true, true, I, J, K, rfl, rfl, rfl, rfl, rfl, hB, .inr ⟨rfl, rfl, hI, hJ, .inr ⟨hMI.onlyW, hMI.lacksV sg.out hI (fun _ => hlt)⟩⟩⟩
            | false =>
              obtain ⟨q1, q2, q3⟩ := pr_spec sf.out hI hlt R
              have HP := fun t => passRunF bfi 0 n n (by omega) (Nat.le_refl _) f (g J) I hI R (wr.drewN t) (fun i hi => by rw [Nat.zero_add]; exact EE.vi i hi)
              obtain ⟨Q, hQ⟩ : ∃ Q, Q = pr f (g J) n I R := ⟨_, rfl⟩
              rw [← hQ] at q1 q2 q3 HP
              have hN : Hid (MI f fc n g gc m M true false Q J (K + (Q - I))) := hMI.runV sf.out sg.out hI hJ q1 q2 q3
              have HC := hB.putC hL (Q - I) (n - I) (by have := (hMI.w0 rfl).1; omega) (some ⟨bfc, I, none⟩) (fun t => fc (I + t)) (fun _ => ⟨bfc, I, rfl, fun t ht => EE.vc (I + t) (by omega)⟩) (fun t ht => ⟨_, (hMI.getV hJ q1 q2 q3).1 t ht⟩)
              clear hQ q3 hMI
              have e1 := EE.pv0
              have e2 := EE.pw0
              have e3 := EE.pv1
              have e4 := EE.wi J hJ
              have i2 : (J : Int) < m := by omega
              go_wp2
              go_quiet ((go_at_call 38; exact Calls.quiet_of_same (HP _)))
              go_wp2_with fail
              refine (HC _).mono ?_
              rintro e w' ⟨rfl, hB2⟩
              clear HC hB EE e1 e2 e3 e4 HP
              have EE := E.kept hA hB2.gr
              have e1 := EE.pv0
              have e2 := EE.pw0
              have d2 : ((J : Int) == m) = false := by simp; omega
              by_cases hQn : Q = n
              · have d1 : ((Q : Int) == n) = true := by simp; omega
                go_wp2
                go_meet
                case rel => exact ⟨true, false, Q, J, K + (Q - I), rfl, rfl, by rw [hQn], rfl, by go_num, hB2, .inl ⟨hN.out, .inl hQn⟩⟩
              · have d1 : ((Q : Int) == n) = false := by simp; omega
                have e3 := EE.vi Q (by omega)
                have e4 := EE.wi J hJ
                have i1 : (Q : Int) < n := by omega
                go_wp2
                go_quiet ((go_at_call 37; exact Calls.quiet_of_same (compareIDs _ _ _)))
                go_wp2
                go_roundw
                case rel => exact ⟨true, false, true, Q, J, K + (Q - I), rfl, rfl, rfl, rfl, rfl, by go_num, rfl, by omega, hJ, hB2.drewN _, hN.out⟩
                case measure => simp [intOf]; omega
        · as_aux_lemma =>
            have hc : cmpI (f I) (g J) = 0 := by unfold cmpI; rw [if_pos heq]
            have hKL : K < L := by
              cases WO with
              | false => have := (hMI.w0 rfl).1; omega
              | true => have := (hMI.onlyW.v0 rfl).1; omega
            have hN : Hid (MI f fc n g gc m M VO WO (I + 1) (J + 1) (K + 1)) := hMI.eq sf.out sg.out hI hJ heq
            have hG : Hid (mc M K = max (fc I) (gc J)) := mc_of (hMI.getEq hI hJ heq).1
            clear hMI
            have e1 := EE.pv1
            have e2 := EE.pw1
            have e3 := EE.vc I hI
            have e4 := EE.wc J hJ
            have e5 := hB.cell K hKL
            have e6 := hB.fr K hKL
            have i1 : (I : Int) < n := by omega
            have i2 : (J : Int) < m := by omega
            have i3 : (K : Int) < L := by omega
            go_wp2
            go_region
            generalize hw2 : (wr.setCell ⟨bb, K, none⟩ (.int .u64 (max (fc I) (gc J)))).drew = w2
            have hB2 : Buf w w2 bb L M ob (K + 1) := by rw [← hw2]; exact (hB.put1 hKL _ hG.out).drew
            clear hw2 hB hG EE e1 e2 e3 e4 e5 e6 i1 i2 i3
            have EE := E.kept hA hB2.gr
            have e1 := EE.pv0
            have e2 := EE.pw0
            by_cases hQn : I + 1 = n
            · have d1 : ((I : Int) + 1 == n) = true := by simp; omega
              go_wp2
              go_meet
              case rel => exact ⟨VO, WO, I + 1, J + 1, K + 1, rfl, rfl, by go_num, by go_num, by go_num, hB2, .inl ⟨hN.out, .inl hQn⟩⟩
            · have d1 : ((I : Int) + 1 == n) = false := by simp; omega
              by_cases hQm : J + 1 = m
              · have d2 : ((J : Int) + 1 == m) = true := by simp; omega
                go_wp2
                go_meet
                case rel => exact ⟨VO, WO, I + 1, J + 1, K + 1, rfl, rfl, by go_num, by go_num, by go_num, hB2, .inl ⟨hN.out, .inr hQm⟩⟩
              · have d2 : ((J : Int) + 1 == m) = false := by simp; omega
                have e3 := EE.vi (I + 1) (by omega)
                have e4 := EE.wi (J + 1) (by omega)
                have i1 : (I : Int) + 1 < n := by omega
                have i2 : (J : Int) + 1 < m := by omega
                go_wp2
                go_quiet ((go_at_call 37; exact Calls.quiet_of_same (compareIDs _ _ _)))
                go_wp2
                go_roundw
                case rel => exact ⟨VO, WO, false, I + 1, J + 1, K + 1, rfl, rfl, rfl, by go_num, by go_num, by go_num, rfl, by omega, by omega, hB2.drewN _, hN.out⟩
                case measure => simp [intOf]; omega
        · as_aux_lemma =>
            have hc : cmpI (f I) (g J) = 1 := by unfold cmpI; rw [if_neg (fun e => klt_irrefl _ (e ▸ hgt)), if_neg (fun h => klt_irrefl _ (klt_trans h hgt))]
            cases VO with
            | true =>
              go_wp2
              go_meet
              case rel => exact ⟨true, true, I, J, K, rfl, rfl, rfl, rfl, rfl, hB, .inr ⟨rfl, rfl, hI, hJ, .inl ⟨hMI.onlyV, hMI.lacksW sf.out hJ (fun _ => hgt)⟩⟩⟩
            | false =>
              obtain ⟨q1, q2, q3⟩ := pr_spec sg.out hJ hgt R
              have HP := fun t => passRunF bgi 0 m m (by omega) (Nat.le_refl _) g (f I) J hJ R (wr.drewN t) (fun i hi => by rw [Nat.zero_add]; exact EE.wi i hi)
              obtain ⟨Q, hQ⟩ : ∃ Q, Q = pr g (f I) m J R := ⟨_, rfl⟩
              rw [← hQ] at q1 q2 q3 HP
              have hN : Hid (MI f fc n g gc m M false true I Q (K + (Q - J))) := hMI.runW sf.out sg.out hI hJ q1 q2 q3
              have HC := hB.putC hL (Q - J) (m - J) (by have := (hMI.v0 rfl).1; omega) (some ⟨bgc, J, none⟩) (fun t => gc (J + t)) (fun _ => ⟨bgc, J, rfl, fun t ht => EE.wc (J + t) (by omega)⟩) (fun t ht => ⟨_, (hMI.getW hI q1 q2 q3).1 t ht⟩)
              clear hQ q3 hMI
              have e1 := EE.pv0
              have e2 := EE.pw0
              have e3 := EE.pw1
              have e4 := EE.vi I hI
              have i2 : (I : Int) < n := by omega
              go_wp2
              go_quiet ((go_at_call 38; exact Calls.quiet_of_same (HP _)))
              go_wp2_with fail
              refine (HC _).mono ?_
              rintro e w' ⟨rfl, hB2⟩
              clear HC hB EE e1 e2 e3 e4 HP
              have EE := E.kept hA hB2.gr
              have e1 := EE.pv0
              have e2 := EE.pw0
              have d1 : ((I : Int) == n) = false := by simp; omega
              by_cases hQn : Q = m
              · have d2 : ((Q : Int) == m) = true := by simp; omega
                go_wp2
                go_meet
                case rel => exact ⟨false, true, I, Q, K + (Q - J), rfl, rfl, rfl, by rw [hQn], by go_num, hB2, .inl ⟨hN.out, .inr hQn⟩⟩
              · have d2 : ((Q : Int) == m) = false := by simp; omega
                have e3 := EE.vi I hI
                have e4 := EE.wi Q (by omega)
                have i1 : (Q : Int) < m := by omega
                go_wp2
                go_quiet ((go_at_call 37; exact Calls.quiet_of_same (compareIDs _ _ _)))
                go_wp2
                go_roundw
                case rel => exact ⟨false, true, true, I, Q, K + (Q - J), rfl, rfl, rfl, rfl, rfl, by go_num, rfl, hI, by omega, hB2.drewN _, hN.out⟩
                case measure => simp [intOf]; omega
  case rest =>
    clear hb
    obtain ⟨VO, WO, I, J, K, rfl, rfl, rfl, rfl, rfl, hB, hR⟩ := hcut
    have EE := E.kept hA hB.gr
    go_upto_block 3 with fail
    go_cut [13] from 150 to 199 (fun k wx => k = .int .i64 K ∧ wx = wc ∧ Hid (∃ VB : Bool, MI f fc n g gc m M VB (!VB) I J K ∧ Lacks f n g m ∧ Lacks g m f n))
    case first =>
      as_aux_lemma =>
        by_cases c1 : VO = false ∧ I = n
        · obtain ⟨rfl, hIn⟩ := c1
          have hMI : MI f fc n g gc m M false WO I J K := by
            rcases hR with h | h
            · exact h.1
            · exact absurd h.1 (by simp)
          have hE := (hIn ▸ hMI).endW
          have hkJ : Hid (K = J) := (hMI.v0 rfl).1
          have hKL : K ≤ L ∧ K + (m - J) ≤ L := by have := hkJ.out; have := hMI.hj; omega
          have HC0 := hB.putC0 hL 0 0 hKL.1 (some ⟨bgc, 0, none⟩) (fun t => gc t) (fun h => by omega) (fun t ht => by omega)
          have HC1 := hB.putC0 hL (m - J) (m - J) hKL.2 (some ⟨bgc, J, none⟩) (fun t => gc (J + t)) (fun _ => ⟨bgc, J, rfl, fun t ht => EE.wc (J + t) (by omega)⟩) (fun t ht => ⟨_, hE.2.1 t ht⟩)
          have e1 := EE.pv0
          have e2 := EE.pw0
          have e3 := EE.pw1
          have d1 : ((I : Int) == n) = true := by simp; omega
          have hE' : Hid (M.length = m ∧ (∀ y, y < m → mi M y = g y) ∧ ∀ x, x < n → ∃ y, y < m ∧ (f x).toList = (g y).toList) := ⟨hE.1, hE.2.2⟩
          have hJ' : (J : Int) ≤ m := by have := hMI.hj; omega
          clear hR hMI hE hKL
          go_wp2_with fail
          · refine HC0.mono ?_
            rintro e w' ⟨rfl, hB2⟩
            have e2 := (E.kept hA hB2.gr).pw0
            have hK : K + 0 = m := by have := hkJ.out; omega
            have hJm : Hid (J = m) := by have := hkJ.out; show _ = _; omega
            rw [hK] at hB2
            clear HC0 HC1 hK hkJ
            go_wp2
            (try simp only [Exit.noGoto])
            go_ret2
            exact .inl ⟨by first | rfl | (rw [hJm.out]; rfl) | rw [hJm.out], hE'.out.1, hE'.out.2.1, hE'.out.2.2, hB2⟩
          · refine HC1.mono ?_
            rintro e w' ⟨rfl, hB2⟩
            have e2 := (E.kept hA hB2.gr).pw0
            have hK : K + (m - J) = m := by have := hkJ.out; omega
            rw [hK] at hB2
            clear HC0 HC1 hK hkJ
            go_wp2
            (try simp only [Exit.noGoto])
            go_ret2
            exact .inl ⟨by first | rfl | (rw [hJm.out]; rfl) | rw [hJm.out], hE'.out.1, hE'.out.2.1, hE'.out.2.2, hB2⟩
        · by_cases c2 : WO = false ∧ J = m
          · obtain ⟨rfl, hJm⟩ := c2
            have hMI : MI f fc n g gc m M VO false I J K := by
              rcases hR with h | h
              · exact h.1
              · exact absurd h.2.1 (by simp)
            have hE := (hJm ▸ hMI).endV
            have hkJ : Hid (K = I) := (hMI.w0 rfl).1
            have hKL : K ≤ L ∧ K + (n - I) ≤ L := by have := hkJ.out; have := hMI.hi; omega
            have HC0 := hB.putC0 hL 0 0 hKL.1 (some ⟨bfc, 0, none⟩) (fun t => fc t) (fun h => by omega) (fun t ht => by omega)
            have HC1 := hB.putC0 hL (n - I) (n - I) hKL.2 (some ⟨bfc, I, none⟩) (fun t => fc (I + t)) (fun _ => ⟨bfc, I, rfl, fun t ht => EE.vc (I + t) (by omega)⟩) (fun t ht => ⟨_, hE.2.1 t ht⟩)
            have hE' : Hid (M.length = n ∧ (∀ y, y < n → mi M y = f y) ∧ ∀ x, x < m → ∃ y, y < n ∧ (g x).toList = (f y).toList) := ⟨hE.1, hE.2.2⟩
            have hI' : (I : Int) ≤ n := by have := hMI.hi; omega
            have d2 : ((J : Int) == m) = true := by simp; omega
            have hq : Hid (I = n → VO = true) := fun h => by
              cases VO with
              | true => rfl
              | false => exact absurd ⟨rfl, h⟩ c1
            clear c1 hR hE hKL
            have e1 := EE.pv0
            have e2 := EE.pw0
            have e3 := EE.pv1
            cases VO with
            | true =>
              clear hMI hq
              go_wp2_with fail
              · refine HC0.mono ?_
                rintro e w' ⟨rfl, hB2⟩
                have e2 := (E.kept hA hB2.gr).pv0
                have hK : K + 0 = n := by have := hkJ.out; omega
                have hIn : Hid (I = n) := by have := hkJ.out; show _ = _; omega
                rw [hK] at hB2
                clear HC0 HC1 hK hkJ
                go_wp2
                (try simp only [Exit.noGoto])
                go_ret2
                exact .inr (.inl ⟨by first | rfl | (rw [hIn.out]; rfl) | rw [hIn.out], hE'.out.1, hE'.out.2.1, hE'.out.2.2, hB2⟩)
              · refine HC1.mono ?_
                rintro e w' ⟨rfl, hB2⟩
                have e2 := (E.kept hA hB2.gr).pv0
                have hK : K + (n - I) = n := by have := hkJ.out; omega
                rw [hK] at hB2
                clear HC0 HC1 hK hkJ
                go_wp2
                (try simp only [Exit.noGoto])
                go_ret2
                exact .inr (.inl ⟨by first | rfl | (rw [hIn.out]; rfl) | rw [hIn.out], hE'.out.1, hE'.out.2.1, hE'.out.2.2, hB2⟩)
            | false =>
              have hIn : I < n := by
                have : I ≠ n := fun h => absurd (hq.out h) (by simp)
                omega
              have d1 : ((I : Int) == n) = false := by simp; omega
              clear hMI hq
              go_wp2_with fail
              refine HC1.mono ?_
              rintro e w' ⟨rfl, hB2⟩
              have e2 := (E.kept hA hB2.gr).pv0
              have hK : K + (n - I) = n := by have := hkJ.out; omega
              rw [hK] at hB2
              clear HC0 HC1 hK hkJ
              go_wp2
              (try simp only [Exit.noGoto])
              go_ret2
              exact .inr (.inl ⟨by first | rfl | (rw [hIn.out]; rfl) | rw [hIn.out], hE'.out.1, hE'.out.2.1, hE'.out.2.2, hB2⟩)
          · have d3 : Hid (∃ VB : Bool, MI f fc n g gc m M VB (!VB) I J K ∧ Lacks f n g m ∧ Lacks g m f n) := by
              rcases hR with ⟨h, he⟩ | ⟨rfl, rfl, hI, hJ, h | h⟩
              · cases VO with
                | true =>
                  cases WO with
                  | true => exact absurd ⟨rfl, rfl⟩ h.one
                  | false =>
                    have hJ : J < m := by have := h.hj; have : J ≠ m := fun e => c2 ⟨rfl, e⟩; omega
                    exact ⟨true, h, (h.v1 rfl).2, h.lacksW sf.out hJ (fun h' => by omega)⟩
                | false =>
                  have hI : I < n := by have := h.hi; have : I ≠ n := fun e => c1 ⟨rfl, e⟩; omega
                  cases WO with
                  | true => exact ⟨false, h, h.lacksV sg.out hI (fun h' => by omega), (h.w1 rfl).2⟩
                  | false => exact absurd ⟨rfl, show J = m by omega⟩ c2
              · exact ⟨true, h.1, (h.1.v1 rfl).2, h.2⟩
              · exact ⟨false, h.1, h.2, (h.1.w1 rfl).2⟩
            have e1 := EE.pv0
            have e2 := EE.pw0
            clear hR
            cases VO with
            | true =>
              cases WO with
              | true =>
                go_wp2
                go_meet
                case rel => exact ⟨rfl, rfl, d3⟩
              | false =>
                have hd : ((J : Int) == m) = false := by
                  have : J ≠ m := fun e => c2 ⟨rfl, e⟩
                  simp; omega
                go_wp2
                go_meet
                case rel => exact ⟨rfl, rfl, d3⟩
            | false =>
              have hd : ((I : Int) == n) = false := by
                have : I ≠ n := fun e => c1 ⟨rfl, e⟩
                simp; omega
              cases WO with
              | true =>
                go_wp2
                go_meet
                case rel => exact ⟨rfl, rfl, d3⟩
              | false =>
                have hd2 : ((J : Int) == m) = false := by
                  have : J ≠ m := fun e => c2 ⟨rfl, e⟩
                  simp; omega
                go_wp2
                go_meet
                case rel => exact ⟨rfl, rfl, d3⟩
    case rest =>
      obtain ⟨rfl, rfl, hC⟩ := hcut
      clear hR
      obtain ⟨VB, hMI, l1, l2⟩ := hC.out
      have hLk : Hid (Lacks f n g m ∧ Lacks g m f n) := ⟨l1, l2⟩
      clear hC l1 l2
      have hML : Hid (ML f fc n g gc m M I J K) := hMI.ml
      have hI := hMI.hi
      have hJ := hMI.hj
      have hKT : Hid (K = I ∨ K = J) := by
        cases VB with
        | true => exact .inl (hMI.w0 rfl).1
        | false => exact .inr (hMI.v0 rfl).1
      have e1 := EE.pv0
      have e2 := EE.pw0
      have hI' : (I : Int) ≤ n := by omega
      have hJ' : (J : Int) ≤ m := by omega
      go_upto_if 208 with fail
      go_cut [17] from 200 to 214 (fun bf wx => wx = wc ∧ Hid (∃ bx cx, bf = .slice (some ⟨bx, 0, none⟩) K cx ∧ (bx < w.heap.size ∧ bx ≠ bb) ∧ ∀ t, t < K → wc.cell? ⟨bx, t, none⟩ = some (.string (mi M t))))
      case first =>
        as_aux_lemma =>
          cases VB with
          | true =>
            have h0 := hMI.w0 rfl
            have hk := h0.1
            subst hk
            have hd : Hid (∃ bx cx, Value.slice (some ⟨bfi, 0, none⟩) K n = .slice (some ⟨bx, 0, none⟩) K cx ∧ (bx < w.heap.size ∧ bx ≠ bb) ∧ ∀ t, t < K → wc.cell? ⟨bx, t, none⟩ = some (.string (mi M t))) :=
              ⟨bfi, n, rfl, hA.2.2.1, fun t ht => by rw [h0.2.1 t ht]; exact EE.vi t (by omega)⟩
            clear hMI h0
            go_wp2
            go_meet
            case rel => exact ⟨rfl, hd⟩
          | false =>
            have h0 := hMI.v0 rfl
            have hk := h0.1
            have hij := (hMI.w1 rfl).1
            subst hk
            have hd : Hid (∃ bx cx, Value.slice (some ⟨bgi, 0, none⟩) K m = .slice (some ⟨bx, 0, none⟩) K cx ∧ (bx < w.heap.size ∧ bx ≠ bb) ∧ ∀ t, t < K → wc.cell? ⟨bx, t, none⟩ = some (.string (mi M t))) :=
              ⟨bgi, m, rfl, hA.2.2.2.2.1, fun t ht => by rw [h0.2.1 t ht]; exact EE.wi t (by omega)⟩
            have hne : ((K : Int) == I) = false := by simp; omega
            have hne2 : ((K : Int) != I) = true := by simp; omega
            clear hMI h0
            go_wp2
            go_meet
            case rel => exact ⟨rfl, hd⟩
      case rest =>
        obtain ⟨rfl, hbx⟩ := hcut
        clear hMI
        obtain ⟨bx, cx, rfl, hbx1, hbx2⟩ := hbx.out
        clear hbx
        obtain ⟨T, hT⟩ : ∃ T, Hid (T = K + (n - I) + (m - J)) := ⟨_, rfl⟩
        have hT2 : T ≤ 1048576 := by have := hKT.out; have := hT.out; omega
        have hKL : K ≤ L := by have := hKT.out; omega
        have hTi := tot_wrap (K := K) (n := n) (m := m) (I := I) (J := J) (by omega) (by omega) (by omega) hI hJ
        rw [← hT.out] at hTi
        have hKX : K ≤ max n m := by have := hKT.out; omega
        have hT' : Hid (M.length ≤ T ∧ K ≤ T) := by have := hML.out.len; have := hT.out; show _ ∧ _; omega
        clear hKT
        go_upto_region 31 with fail
        go_cut [18, 19] from 215 to 235 (fun a b wx => ∃ b1 o1 c1 b2 o2 c2 : Nat, a = .slice (some ⟨b1, o1, none⟩) T c1 ∧ b = .slice (some ⟨b2, o2, none⟩) T c2 ∧ At w bb T b1 o1 c1 b2 o2 c2 ∧ Rw w wx bb L (max n m) ob M T b1 o1 b2 o2 0 ∧ Hid (∀ x, x < L → wx.cell? ⟨bb, x, none⟩ = wc.cell? ⟨bb, x, none⟩))
        case first =>
          as_aux_lemma =>
            clear hT
            have s1 : bv < wc.heap.size := by rw [hB.size]; exact hA.1.1
            have s2 : bw < wc.heap.size := by rw [hB.size]; exact hA.2.1.1
            go_region_held3 (fun w' => w'.cell? ⟨bv, 0, none⟩ = some (.slice (some ⟨bfi, 0, none⟩) n n) ∧ w'.cell? ⟨bw, 0, none⟩ = some (.slice (some ⟨bgi, 0, none⟩) m m)) (go_keep)
              (first | (go_at_call 26; refine (newl_any T hT2 _).mono ?_; rintro e w' ⟨b1, o1, c1, b2, o2, c2, rfl, hNL⟩; have k1 := (World.cell?_of_block (a := ⟨bv, 0, none⟩) (hNL.below.block bv s1)).trans e1; have k2 := (World.cell?_of_block (a := ⟨bw, 0, none⟩) (hNL.below.block bw s2)).trans e2))
            all_goals
              go_wp2_with fail
              go_meet
              case rel =>
                have hX := (hB.drewN _).newRw hbb hKX hNL
                exact ⟨b1, o1, c1, b2, o2, c2, rfl, rfl, hX.1, hX.2.1, hX.2.2⟩
        case rest =>
          obtain ⟨b1, o1, c1, b2, o2, c2, rfl, rfl, A, hRw, hbc⟩ := hcut
          go_wp2_with fail
          refine (hRw.before A hT2 hB hbc.out hbx1 hbx2 hKL hT'.out.2 hML.out.kle).mono ?_
          rintro e w' ⟨rfl, hRw2⟩
          clear hRw hbc hbx1 hbx2 hB EE e1 e2 hI' hJ'
          have hTl : Hid (M.length ≤ T) := hT'.out.1
          clear hTi hT hKX hKL hT' hI hJ
          go_upto_block 4 with fail
          go_cut [10, 11, 12, 13] (fun r i j k wx => ∃ I J K : Nat, i = .int .i64 I ∧ j = .int .i64 J ∧ k = .int .i64 K ∧ Rw w wx bb L (max n m) ob M T b1 o1 b2 o2 K ∧ Hid (ML f fc n g gc m M I J K ∧ (I = n ∨ J = m)))
          case first =>
            as_aux_lemma =>
              go_wp2_with fail
              go_loopw [10, 11, 12, 13] (fun r i j k wr => ∃ (R : Bool) (I J K : Nat), r = .bool R ∧ i = .int .i64 I ∧ j = .int .i64 J ∧ k = .int .i64 K ∧ Rw w wr bb L (max n m) ob M T b1 o1 b2 o2 K ∧ Hid (ML f fc n g gc m M I J K))
                (fun _ i j _ _ => (n - (intOf i).toNat) + (m - (intOf j).toNat))
              case atStart => exact ⟨false, I, J, K, rfl, rfl, rfl, rfl, hRw2, hML⟩
              case round =>
                clear hRw2 hML
                obtain ⟨R, I, J, K, rfl, rfl, rfl, rfl, hRw, hML⟩ := hrel
                have EE := E.kept hA hRw.gr
                have e1 := EE.pv0
                have e2 := EE.pw0
                by_cases hI : I < n
                · by_cases hJ : J < m
                  · have d1 : (I : Int) < n := by omega
                    have d2 : (J : Int) < m := by omega
                    have e3 := EE.vi I hI
                    have e4 := EE.wi J hJ
                    rcases klt_tri (f I).toList (g J).toList with hlt | heq | hgt
                    · as_aux_lemma =>
                        have hc : ((f I).toList == (g J).toList) = false := by
                          cases hh : ((f I).toList == (g J).toList) with
                          | false => rfl
                          | true => exact absurd (by have e := eq_of_beq hh; rw [e] at hlt; exact hlt) (klt_irrefl _)
                        have hb : Op.bytesLess (f I).toList (g J).toList = true := (less_iff _ _).2 hlt
                        obtain ⟨q1, q2, q3⟩ := pr_spec sf.out hI hlt R
                        have HP := fun t => passRunF bfi 0 n n (by omega) (Nat.le_refl _) f (g J) I hI R (wr.drewN t) (fun i hi => by rw [Nat.zero_add]; exact EE.vi i hi)
                        obtain ⟨Q, hQ⟩ : ∃ Q, Q = pr f (g J) n I R := ⟨_, rfl⟩
                        rw [← hQ] at q1 q2 q3 HP
                        have hG := hML.out.getV hJ q1 q2 q3
                        have hKT : K + (Q - I) ≤ T := by have := hG.2.kle; have := hTl.out; omega
                        have HC := fun t => ((hRw.drewN t).drew).putC0 A hT2 (Q - I) (n - I) (n - I) hKT (by omega) (some ⟨bfi, I, none⟩) (some ⟨bfc, I, none⟩) (fun t => f (I + t)) (fun t => fc (I + t))
                          (fun _ => ⟨bfi, I, rfl, hA.2.2.1.1, fun i hi => EE.vi (I + i) (by omega)⟩) (fun _ => ⟨bfc, I, rfl, hA.2.2.2.1.1, fun i hi => EE.vc (I + i) (by omega)⟩) hG.1
                        have hN : Hid (ML f fc n g gc m M Q J (K + (Q - I))) := hG.2
                        clear hG hML hQ q3 hKT
                        have e5 := EE.pv0
                        have e6 := EE.pv1
                        have d3 : (Q : Int) ≤ n := by omega
                        have d4 : (I : Int) ≤ Q := by omega
                        have d5 : ¬ n = I := by omega
                        go_wp2
                        go_quiet (fail)
                        go_wp2_with fail
                        refine (HP _).mono ?_
                        rintro e w' ⟨rfl, rfl⟩
                        go_wp2_with fail
                        go_region_held3 (fun w' => w'.cell? ⟨bv, 0, none⟩ = some (.slice (some ⟨bfi, 0, none⟩) n n) ∧ w'.cell? ⟨bv, 1, none⟩ = some (.slice (some ⟨bfc, 0, none⟩) n n)) (go_keep)
                          (first | (go_at_call 36; refine (HC _).mono ?_; rintro e w' ⟨rfl, hRw3⟩; have k1 := (E.kept hA hRw3.gr).pv0; have k2 := (E.kept hA hRw3.gr).pv1))
                        all_goals
                          clear HC HP
                          go_wp2
                          go_roundw
                          case rel => exact ⟨true, Q, J, K + (Q - I), rfl, rfl, rfl, by go_num, hRw3, hN⟩
                          case measure => simp [intOf]; omega
                    · as_aux_lemma =>
                        have hc : ((f I).toList == (g J).toList) = true := by simp [heq]
                        have hG := hML.out.getEq hI hJ heq
                        have hKT : K < T := by have := lt_of_get hG.1; have := hTl.out; omega
                        have hN : Hid (ML f fc n g gc m M (I + 1) (J + 1) (K + 1)) := hG.2
                        have hG1 : Hid (M[K]? = some (f I, max (fc I) (gc J))) := hG.1
                        clear hG hML
                        obtain ⟨v1, hv1⟩ := Option.isSome_iff_exists.1 (hRw.d1 K hKT)
                        obtain ⟨v2, hv2⟩ := Option.isSome_iff_exists.1 (hRw.d2 K hKT)
                        have hv3 : ∀ t, ((wr.drewN t).setCell ⟨b1, o1 + K, none⟩ (.string (f I))).cell? ⟨b2, o2 + K, none⟩ = some v2 := fun t => (cellO (w := wr.drewN t) (by intro e; have := A.ap e; omega)).trans hv2
                        have hPE : Hid (∀ t, Rw w ((((wr.drewN t).setCell ⟨b1, o1 + K, none⟩ (.string (f I))).setCell ⟨b2, o2 + K, none⟩ (.int .u64 (max (fc I) (gc J))))) bb L (max n m) ob M T b1 o1 b2 o2 (K + 1)) :=
                          fun t => (hRw.drewN t).put1 A hKT hG1.out (pe_step (x := 0) (q := 1) (pe_start (wr.drewN t) w.heap.size b1 (o1 + K) b2 (o2 + K) (fun _ => f I) (fun _ => max (fc I) (gc J))) (by omega) A.l1 A.l2 (fun e => by have := A.ap e; omega) hv1 hv2)
                        have hf1 := hRw.f1 K hKT
                        have hf2 := hRw.f2 K hKT
                        have e5 := EE.pv1
                        have e6 := EE.pw1
                        have e7 := EE.vc I hI
                        have e8 := EE.wc J hJ
                        have d3 : (K : Int) < T := by omega
                        go_wp2
                        go_quiet (fail)
                        go_wp2_with fail
                        go_region
                        go_wp2
                        go_roundw
                        case rel => exact ⟨false, I + 1, J + 1, K + 1, rfl, by go_num, by go_num, by go_num, hPE.out _, hN⟩
                        case measure => simp [intOf]; omega
                    · as_aux_lemma =>
                        have hc : ((f I).toList == (g J).toList) = false := by
                          cases hh : ((f I).toList == (g J).toList) with
                          | false => rfl
                          | true => exact absurd (by have e := eq_of_beq hh; rw [e] at hgt; exact hgt) (klt_irrefl _)
                        have hb : Op.bytesLess (f I).toList (g J).toList = false := by cases hh : Op.bytesLess (f I).toList (g J).toList with
                          | false => rfl
                          | true => exact absurd (klt_trans ((less_iff _ _).1 hh) hgt) (klt_irrefl _)
                        obtain ⟨q1, q2, q3⟩ := pr_spec sg.out hJ hgt R
                        have HP := fun t => passRunF bgi 0 m m (by omega) (Nat.le_refl _) g (f I) J hJ R (wr.drewN t) (fun i hi => by rw [Nat.zero_add]; exact EE.wi i hi)
                        obtain ⟨Q, hQ⟩ : ∃ Q, Q = pr g (f I) m J R := ⟨_, rfl⟩
                        rw [← hQ] at q1 q2 q3 HP
                        have hG := hML.out.getW hI q1 q2 q3
                        have hKT : K + (Q - J) ≤ T := by have := hG.2.kle; have := hTl.out; omega
                        have HC := fun t => ((hRw.drewN t).drew).putC0 A hT2 (Q - J) (m - J) (m - J) hKT (by omega) (some ⟨bgi, J, none⟩) (some ⟨bgc, J, none⟩) (fun t => g (J + t)) (fun t => gc (J + t))
                          (fun _ => ⟨bgi, J, rfl, hA.2.2.2.2.1.1, fun i hi => EE.wi (J + i) (by omega)⟩) (fun _ => ⟨bgc, J, rfl, hA.2.2.2.2.2.1, fun i hi => EE.wc (J + i) (by omega)⟩) hG.1
                        have hN : Hid (ML f fc n g gc m M I Q (K + (Q - J))) := hG.2
                        clear hG hML hQ q3 hKT
                        have e5 := EE.pw0
                        have e6 := EE.pw1
                        have d3 : (Q : Int) ≤ m := by omega
                        have d4 : (J : Int) ≤ Q := by omega
                        have d5 : ¬ m = J := by omega
                        go_wp2
                        go_quiet (fail)
                        go_wp2_with fail
                        refine (HP _).mono ?_
                        rintro e w' ⟨rfl, rfl⟩
                        go_wp2_with fail
                        go_region_held3 (fun w' => w'.cell? ⟨bw, 0, none⟩ = some (.slice (some ⟨bgi, 0, none⟩) m m) ∧ w'.cell? ⟨bw, 1, none⟩ = some (.slice (some ⟨bgc, 0, none⟩) m m)) (go_keep)
                          (first | (go_at_call 36; refine (HC _).mono ?_; rintro e w' ⟨rfl, hRw3⟩; have k1 := (E.kept hA hRw3.gr).pw0; have k2 := (E.kept hA hRw3.gr).pw1))
                        all_goals
                          clear HC HP
                          go_wp2
                          go_roundw
                          case rel => exact ⟨true, I, Q, K + (Q - J), rfl, rfl, rfl, by go_num, hRw3, hN⟩
                          case measure => simp [intOf]; omega
                  · have d1 : (I : Int) < n := by omega
                    have d2 : decide ((J : Int) < m) = false := by simp; omega
                    have hd : Hid (ML f fc n g gc m M I J K ∧ (I = n ∨ J = m)) := ⟨hML.out, .inr (by have := hML.out.hj; omega)⟩
                    go_wp2
                    go_meet
                    case rel => exact ⟨I, J, K, rfl, rfl, rfl, hRw, hd⟩
                · have d1 : decide ((I : Int) < n) = false := by simp; omega
                  have hd : Hid (ML f fc n g gc m M I J K ∧ (I = n ∨ J = m)) := ⟨hML.out, .inl (by have := hML.out.hi; omega)⟩
                  go_wp2
                  go_meet
                  case rel => exact ⟨I, J, K, rfl, rfl, rfl, hRw, hd⟩
          case rest =>
            clear hRw2 hML
            obtain ⟨I, J, K, rfl, rfl, rfl, hRw, hML⟩ := hcut
            have hV := hML.out.1.endV hML.out.2
            have hI : I ≤ n := hML.out.1.hi
            have hJ : J ≤ m := hML.out.1.hj
            have hV2 : Hid (ML f fc n g gc m M n J (K + (n - I))) := hV.2
            have hV1 : Hid (∀ t, t < n - I → M[K + t]? = some (f (I + t), fc (I + t))) := hV.1
            have hKT : K + (n - I) ≤ T := by have := hV.2.kle; have := hTl.out; omega
            clear hV hML
            go_upto_region 47 with fail
            go_cut [13] from 363 to 378 (fun k wx => k = .int .i64 ((K + (n - I) : Nat) : Int) ∧ Rw w wx bb L (max n m) ob M T b1 o1 b2 o2 (K + (n - I)))
            case first =>
              as_aux_lemma =>
                have EE := E.kept hA hRw.gr
                have e1 := EE.pv0
                have e2 := EE.pv1
                clear EE
                by_cases hIn : I < n
                · have HC : ∀ w0, Rw w w0 bb L (max n m) ob M T b1 o1 b2 o2 K → _ := fun w0 h => h.putC0 A hT2 (n - I) (n - I) (n - I) hKT (Nat.le_refl _) (some ⟨bfi, I, none⟩) (some ⟨bfc, I, none⟩) (fun t => f (I + t)) (fun t => fc (I + t))
                        (fun _ => ⟨bfi, I, rfl, hA.2.2.1.1, fun i hi => (E.kept hA h.gr).vi (I + i) (by omega)⟩) (fun _ => ⟨bfc, I, rfl, hA.2.2.2.1.1, fun i hi => (E.kept hA h.gr).vc (I + i) (by omega)⟩) hV1.out
                  have d1 : ¬ n = I := by omega
                  have d2 : (I : Int) ≤ n := by omega
                  go_region_held3 (fun w' => w'.cell? ⟨bv, 0, none⟩ = some (.slice (some ⟨bfi, 0, none⟩) n n) ∧ w'.cell? ⟨bv, 1, none⟩ = some (.slice (some ⟨bfc, 0, none⟩) n n)) (go_keep)
                    (first | (go_at_call 36; refine (HC _ (by first | exact hRw | exact hRw.drewN _ | exact hRw.drew | exact (hRw.drewN _).drew | exact hRw.drew.drewN _)).mono ?_; rintro e w' ⟨rfl, hRw3⟩; have k1 := (E.kept hA hRw3.gr).pv0; have k2 := (E.kept hA hRw3.gr).pv1))
                  all_goals
                    clear HC
                    go_wp2_with fail
                    go_meet
                    case rel => exact ⟨by go_num, hRw3⟩
                · have hIe : I = n := by omega
                  subst hIe
                  have HC : ∀ w0, Rw w w0 bb L (max I m) ob M T b1 o1 b2 o2 K → _ := fun w0 h => h.putC0 A hT2 0 0 0 (by omega) (Nat.le_refl _) (some ⟨bfi, 0, none⟩) (some ⟨bfc, 0, none⟩) (fun t => f t) (fun t => fc t)
                        (fun h => by omega) (fun h => by omega) (fun t h => by omega)
                  go_region_held3 (fun w' => w'.cell? ⟨bv, 0, none⟩ = some (.slice (some ⟨bfi, 0, none⟩) I I) ∧ w'.cell? ⟨bv, 1, none⟩ = some (.slice (some ⟨bfc, 0, none⟩) I I)) (go_keep)
                    (first | (go_at_call 36; refine (HC _ (by first | exact hRw | exact hRw.drewN _ | exact hRw.drew | exact (hRw.drewN _).drew | exact hRw.drew.drewN _)).mono ?_; rintro e w' ⟨rfl, hRw3⟩; have k1 := (E.kept hA hRw3.gr).pv0; have k2 := (E.kept hA hRw3.gr).pv1))
                  all_goals
                    clear HC
                    go_wp2_with fail
                    go_meet
                    case rel => exact ⟨by go_num, by rw [Nat.sub_self]; exact hRw3⟩
            case rest =>
              clear hRw hV1
              obtain ⟨rfl, hRw⟩ := hcut
              have hW := hV2.out.endW
              have hW1 : Hid (∀ t, t < m - J → M[K + (n - I) + t]? = some (g (J + t), gc (J + t))) := hW.1
              have hW2 : Hid (M.length = K + (n - I) + (m - J)) := hW.2
              clear hW hV2
              obtain ⟨K2, hK2⟩ : ∃ K2, K2 = K + (n - I) := ⟨_, rfl⟩
              rw [← hK2] at hRw hW1 hW2 hKT ⊢
              clear hK2 hI
              have hKT2 : K2 + (m - J) ≤ T := by have := hW2.out; have := hTl.out; omega
              go_upto_region 48 with fail
              go_cut [13] from 379 to 394 (fun k wx => k = .int .i64 ((M.length : Nat) : Int) ∧ Rw w wx bb L (max n m) ob M T b1 o1 b2 o2 M.length)
              case first =>
                as_aux_lemma =>
                  have EE := E.kept hA hRw.gr
                  have e1 := EE.pw0
                  have e2 := EE.pw1
                  clear EE
                  by_cases hJn : J < m
                  · have HC : ∀ w0, Rw w w0 bb L (max n m) ob M T b1 o1 b2 o2 K2 → _ := fun w0 h => h.putC0 A hT2 (m - J) (m - J) (m - J) hKT2 (Nat.le_refl _) (some ⟨bgi, J, none⟩) (some ⟨bgc, J, none⟩) (fun t => g (J + t)) (fun t => gc (J + t))
                        (fun _ => ⟨bgi, J, rfl, hA.2.2.2.2.1.1, fun i hi => (E.kept hA h.gr).wi (J + i) (by omega)⟩) (fun _ => ⟨bgc, J, rfl, hA.2.2.2.2.2.1, fun i hi => (E.kept hA h.gr).wc (J + i) (by omega)⟩) hW1.out
                    have d1 : ¬ m = J := by omega
                    have d2 : (J : Int) ≤ m := by omega
                    go_region_held3 (fun w' => w'.cell? ⟨bw, 0, none⟩ = some (.slice (some ⟨bgi, 0, none⟩) m m) ∧ w'.cell? ⟨bw, 1, none⟩ = some (.slice (some ⟨bgc, 0, none⟩) m m)) (go_keep)
                      (first | (go_at_call 36; refine (HC _ (by first | exact hRw | exact hRw.drewN _ | exact hRw.drew | exact (hRw.drewN _).drew | exact hRw.drew.drewN _)).mono ?_; rintro e w' ⟨rfl, hRw3⟩; have k1 := (E.kept hA hRw3.gr).pw0; have k2 := (E.kept hA hRw3.gr).pw1))
                    all_goals
                      clear HC
                      go_wp2_with fail
                      go_meet
                      case rel => exact ⟨by have := hW2.out; rw [this]; go_num, by rw [hW2.out]; exact hRw3⟩
                  · have hJe : J = m := by omega
                    subst hJe
                    have HC : ∀ w0, Rw w w0 bb L (max n J) ob M T b1 o1 b2 o2 K2 → _ := fun w0 h => h.putC0 A hT2 0 0 0 (by omega) (Nat.le_refl _) (some ⟨bgi, 0, none⟩) (some ⟨bgc, 0, none⟩) (fun t => g t) (fun t => gc t)
                        (fun h => by omega) (fun h => by omega) (fun t h => by omega)
                    go_region_held3 (fun w' => w'.cell? ⟨bw, 0, none⟩ = some (.slice (some ⟨bgi, 0, none⟩) J J) ∧ w'.cell? ⟨bw, 1, none⟩ = some (.slice (some ⟨bgc, 0, none⟩) J J)) (go_keep)
                      (first | (go_at_call 36; refine (HC _ (by first | exact hRw | exact hRw.drewN _ | exact hRw.drew | exact (hRw.drewN _).drew | exact hRw.drew.drewN _)).mono ?_; rintro e w' ⟨rfl, hRw3⟩; have k1 := (E.kept hA hRw3.gr).pw0; have k2 := (E.kept hA hRw3.gr).pw1))
                    all_goals
                      clear HC
                      go_wp2_with fail
                      go_meet
                      case rel => exact ⟨by have := hW2.out; rw [this]; go_num, by rw [hW2.out, Nat.sub_self]; exact hRw3⟩
              case rest =>
                clear hRw hW1 hW2 hKT hKT2
                obtain ⟨rfl, hRw⟩ := hcut
                have d1 : (M.length : Int) ≤ c1 := by have := hTl.out; have := A.k1; omega
                have d2 : (M.length : Int) ≤ c2 := by have := hTl.out; have := A.k2; omega
                go_wp2_with fail
                go_quiet (fail)
                go_wp2
                (try simp only [Exit.noGoto])
                go_ret2
                exact .inr (.inr ⟨T, b1, o1, c1, b2, o2, c2, by first | rfl | simp, hTl.out, A, hRw.drewN _, hLk.out.1, hLk.out.2⟩)
end Go.Proofs.Qxb6601531a
