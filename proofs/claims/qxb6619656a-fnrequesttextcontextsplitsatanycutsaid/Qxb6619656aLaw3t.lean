/-
  The walk of FnRequestTextContextSplitsAtAnyCut (3), with a principal.
-/
import Derived.Test.Qxb6619656aLaw3h
namespace Go.Proofs.Qxb6619656a
open Go.RowKit

set_option maxRecDepth 100000 in
set_option maxHeartbeats 4000000 in
theorem law3_true (a0 a1 a3 a4 : ByteArray) (ga : Option Addr) (n c gb go : Nat) (S : Nat → ByteArray) (va : Option Addr) (vn vc cut : Nat) (z : SGrid) (w : World) (h0 : a0.size ≤ maxLen) (h1 : a1.size ≤ maxLen) (h3 : a3.size ≤ maxLen) (h4 : a4.size ≤ maxLen)
    (hn : n ≤ maxLen) (hvn : vn ≤ maxLen) (hL : ∀ i, z.L i ≤ maxLen) (hcut : cut ≤ n) (hS : SlStr w ga n gb go S) (hz : SGridIn w va vn z) :
    Calls Try.prog 3 #[.string a0, .string a1, .bool true, .string a3, .string a4, .slice ga n c, .slice va vn vc, .int .i64 cut] w (TrueB w) := by
  have HB : Hid (∀ w', w' = w → Calls Try.prog 9 #[.string a0, .string a1, .bool true, .string a3, .string a4, .slice ga n c, .slice va vn vc, .int .i64 cut] w' (BoolRet (fun b => b = true → n ≤ 1048576 ∧ vn ≤ 1048576 ∧ ∀ i, z.L i ≤ 1048576) w')) := fun w' h => by
    subst h; exact bytesReq9 a0 a1 true a3 a4 cut ga n c gb go S va vn vc z w' h0 h1 h3 h4 hn hvn hL hS hz
  have HN : Hid (∀ w', w' = w → Calls Try.prog 10 #[.string a0, .string a1, .string a3, .string ⟨#[]⟩, .string a4, .slice ga n c, .slice va vn vc] w' (BoolRet (fun _ => True) w')) := fun w' h => by
    subst h; exact reqTooBig_any a0 a1 a3 ⟨#[]⟩ a4 ga n c gb go S va vn vc z w' h0 h1 h3 (by decide) h4 hn hvn hL hS hz
  have HS := (show Hid _ from hS)
  have HZ := (show Hid _ from hz)
  have HPre : Hid (∀ x, x ∈ preOf a0 a1 (some a4) → x.size ≤ maxLen) := pre_size h0 h1 (fun v hv => by simp at hv; rw [← hv]; exact h4)
  clear hS hz hL h0 h1 h3 h4 hn hvn
  have d1 : ¬ ((cut : Int) < 0) := by omega
  have d2 : ¬ (n < cut) := by omega
  go_enter Try.func3, Try.ntmps3
  go_wp2_with fail
  refine (HB.out _ rfl).mono ?_
  rintro e w' ⟨b, rfl, hb, rfl⟩
  cases b
  · clear hb
    go_wp2
    go_ret
    exact ⟨rfl, Below.refl _ _⟩
  obtain ⟨hn, hvn, hL⟩ := hb rfl
  have HL := (show Hid _ from hL)
  clear hb hL
  go_wp2_with fail
  refine (HN.out _ rfl).mono ?_
  rintro e w' ⟨b, rfl, _, rfl⟩
  cases b
  rotate_left
  · go_wp2
    go_ret
    exact ⟨rfl, Below.refl _ _⟩
  clear HB HN
  go_wp2_with fail
  refine (lastIndex_any ga n c gb go S w hn HS.out).mono ?_
  rintro e w1 ⟨rfl, hM1, hb1⟩
  have hbl := hM1.lt
  have HM1 := (show Hid _ from hM1)
  clear hM1
  -- the contracts, at every later world
  have HCtx : Hid (∀ lo hi w', lo ≤ hi → hi ≤ n → Below w1.heap.size w1 w' → Calls Try.prog 13 #[.slice ga n c, .slice va vn vc, .map (some w.heap.size), .int .i64 (lo : Nat), .int .i64 (hi : Nat)] w' (MapRet (fun w'' => CtxMap w'' w'.heap.size hi S z (ctxI S n lo hi)) w')) := fun lo hi w' h1 h2 h =>
    contextOf_any ga n c gb go S va vn vc z w.heap.size n lo hi w' hn hvn h1 h2 (HS.out.later (hb1.trans (h.mono hb1.size)) (Nat.le_refl _)) (HZ.out.later (hb1.trans (h.mono hb1.size)) (Nat.le_refl _)) (IntMap.below HM1.out h hbl)
  have HVal : Hid (∀ lo hi w', lo ≤ hi → hi ≤ n → Below w1.heap.size w1 w' → Calls Try.prog 16 #[.slice ga n c, .slice va vn vc, .map (some w.heap.size), .int .i64 (lo : Nat), .int .i64 (hi : Nat)] w' (StrsNew (valsOf z (ctxI S n lo hi)) w')) := fun lo hi w' h1 h2 h =>
    valuesOf_any ga n c gb go S va vn vc z w.heap.size n lo hi w' hn hvn h1 h2 HL.out (HS.out.later (hb1.trans (h.mono hb1.size)) (Nat.le_refl _)) (HZ.out.later (hb1.trans (h.mono hb1.size)) (Nat.le_refl _)) (IntMap.below HM1.out h hbl)
  have HReq : Hid (∀ lo hi bm m w', hi ≤ n → Below w1.heap.size w1 w' → CtxMap w' bm m S z (ctxI S n lo hi) → Calls Try.prog 12 #[.string a0, .string a1, .bool true, .string a3, .string a4, .map (some bm)] w' (ReqRet (preOf a0 a1 (some a4)) z (ctxI S n lo hi) w')) := fun lo hi bm m w' h2 h hC =>
    zzReq_map a0 a1 a3 a4 true S z (ctxI S n lo hi) bm m va vn w' (by have := ctxI_len S n lo hi; omega) HL.out (ctxI_nodup S n lo hi) (ctxI_inj S n lo hi) (fun i hi' => HS.out.size i (by have := ((ctxI_mem S n lo hi i).1 hi').1; omega)) (HZ.out.later (hb1.trans (h.mono hb1.size)) (Nat.le_refl _)) hC
  obtain ⟨LA, hLA⟩ : ∃ L, (valsOf z (ctxI S n 0 n)).length = L := ⟨_, rfl⟩
  obtain ⟨LL, hLL⟩ : ∃ L, (valsOf z (ctxI S n 0 cut)).length = L := ⟨_, rfl⟩
  obtain ⟨LR, hLR⟩ : ∃ L, (valsOf z (ctxI S n cut n)).length = L := ⟨_, rfl⟩
  have hsum : LA = LL + LR := by rw [← hLA, ← hLL, ← hLR, ctxI_cut S n cut hcut, valsOf_app, List.length_append]
  have hLAb : LA ≤ 1099511627776 := by
    have := valsOf_len z 1048576 HL.out (ctxI S n 0 n)
    have h4 : (ctxI S n 0 n).length * 1048576 ≤ 1048576 * 1048576 := Nat.mul_le_mul_right _ (by have := ctxI_len S n 0 n; omega)
    omega
  have hLLb : LL ≤ LA := by omega
  have hLRb : LR ≤ LA := by omega
  have HSum := (show Hid _ from hsum)
  have HLA := (show Hid _ from hLA)
  have HLL := (show Hid _ from hLL)
  have HLR := (show Hid _ from hLR)
  have HVS : Hid (∀ J x, x ∈ valsOf z J → x.size ≤ maxLen) := fun J => vals_size HZ.out J
  clear hsum hLA hLL hLR HM1
  -- head
  go_wp2_with fail
  refine (zzReq_nil a0 a1 a3 a4 true w1).mono ?_
  rintro e w2 ⟨vh, rfl, hOh, hb2⟩
  obtain ⟨oh, caph, gh, hVh⟩ := hOh.open_ 3 rfl HPre.out
  have e1 := hVh.form
  subst e1
  have HVh := (show Hid _ from hVh)
  clear hOh hVh
  -- whole
  go_wp2_with fail
  refine (HCtx.out 0 n _ (Nat.zero_le _) (Nat.le_refl _) hb2).mono ?_
  rintro e w3 ⟨rfl, hC3, hb3'⟩
  have hb3 := hb2.trans (hb3'.mono hb2.size)
  have HC3 := (show Hid _ from hC3)
  clear hC3
  go_wp2_with fail
  refine (HReq.out 0 n _ _ _ (Nat.le_refl _) hb3 HC3.out).mono ?_
  intro e w4 h4
  obtain ⟨cap1, g1, y1, rfl, hV1, hp1, hl1, hb4'⟩ := h4.open_ 3 LA rfl (by omega) HLA.out HPre.out HVS.out
  have hb4 := hb3.trans (hb4'.mono hb3.size)
  have HVh4 := (show Hid _ from HVh.out.later (hb3'.trans (hb4'.mono hb3'.size)) (Nat.le_refl _))
  have HV1 := (show Hid _ from hV1)
  have HP1 := (show Hid _ from hp1)
  have HL1 := (show Hid _ from hl1)
  clear h4 hV1 hp1 hl1 HC3 HVh hb3 hb3' hb4'
  -- left
  go_wp2_with fail
  refine (HCtx.out 0 cut _ (Nat.zero_le _) hcut hb4).mono ?_
  rintro e w5 ⟨rfl, hC5, hb5'⟩
  have hb5 := hb4.trans (hb5'.mono hb4.size)
  have HC5 := (show Hid _ from hC5)
  clear hC5
  go_wp2_with fail
  refine (HReq.out 0 cut _ _ _ hcut hb5 HC5.out).mono ?_
  intro e w6 h6
  obtain ⟨cap2, g2, y2, rfl, hV2, hp2, hl2, hb6'⟩ := h6.open_ 3 LL rfl (by omega) HLL.out HPre.out HVS.out
  have hb6 := hb5.trans (hb6'.mono hb5.size)
  have hb46 := hb5'.trans (hb6'.mono hb5'.size)
  have HVh6 := (show Hid _ from HVh4.out.later hb46 (Nat.le_refl _))
  have HV16 := (show Hid _ from HV1.out.later hb46 (Nat.le_refl _))
  have HV2 := (show Hid _ from hV2)
  have HP2 := (show Hid _ from hp2)
  have HL2 := (show Hid _ from hl2)
  clear h6 hV2 hp2 hl2 HC5 HVh4 HV1 hb5 hb5' hb6' hb46 hb4
  -- right
  go_wp2_with fail
  refine (HCtx.out cut n _ hcut (Nat.le_refl _) hb6).mono ?_
  rintro e w7 ⟨rfl, hC7, hb7'⟩
  have hb7 := hb6.trans (hb7'.mono hb6.size)
  have HC7 := (show Hid _ from hC7)
  clear hC7
  go_wp2_with fail
  refine (HReq.out cut n _ _ _ (Nat.le_refl _) hb7 HC7.out).mono ?_
  intro e w8 h8
  obtain ⟨cap3, g3, y3, rfl, hV3, hp3, hl3, hb8'⟩ := h8.open_ 3 LR rfl (by omega) HLR.out HPre.out HVS.out
  have hb8 := hb7.trans (hb8'.mono hb7.size)
  have hb68 := hb7'.trans (hb8'.mono hb7'.size)
  have HVh8 := (show Hid _ from HVh6.out.later hb68 (Nat.le_refl _))
  have HV18 := (show Hid _ from HV16.out.later hb68 (Nat.le_refl _))
  have HV28 := (show Hid _ from HV2.out.later hb68 (Nat.le_refl _))
  have HV38 := (show Hid _ from hV3)
  have HP3 := (show Hid _ from hp3)
  have HL3 := (show Hid _ from hl3)
  have f1 := HV18.out.fits
  have f2 := HV28.out.fits
  have f3 := hV3.fits
  clear h8 hV3 hp3 hl3 HC7 HVh6 HV16 HV2 hb7 hb7' hb8' hb68 hb6 HCtx HReq
  go_wp2_with (at_builtin; go_must (refine wpList_app_strs _ rfl _ _ rfl w8.heap.size _ [a0, a1] rfl (OwnStrs.alloc (own_one w8 a0 a1) _) (some ⟨w8.heap.size + 1, 0, none⟩) 1 1 [a4] rfl rfl ?_ ?_ (by simp) ?_ ?_))
  · intro h; cases h
  · intro ad had j y hy
    cases had
    have hq : j = 0 := by have := (List.getElem?_eq_some_iff.1 hy).1; simpa using this
    subst hq
    simp at hy
    subst hy
    exact cell_next w8 _ _ _
  · simp; omega
  intro vw w9 hO9 hg9
  have hb9 : Below w8.heap.size w8 w9 := (((Below.refl w8.heap.size w8).alloc (Nat.le_refl _) _).alloc (by simp) _).grown hg9 (by simp; omega) (fun x hx => by simp [Value.ownBlock] at hx; omega)
  have hO9' : OwnStrs w9 w8.heap.size vw (preOf a0 a1 (some a4)) := hO9
  obtain ⟨ow, capw, gw, hVw⟩ := hO9'.open_ 3 rfl HPre.out
  have e2 := hVw.form
  subst e2
  have HVw := (show Hid _ from hVw)
  clear hO9 hO9' hg9 hVw
  have hb19 := hb8.trans (hb9.mono hb8.size)
  have HSame : Hid (∀ w', Below w9.heap.size w9 w' → Calls Try.prog 14 #[.slice oh 3 caph, .slice ow 3 capw] w' (TrueB w')) := fun w' h =>
    same_true oh ow 3 caph capw gh 0 gw 0 (getS (preOf a0 a1 (some a4))) w' (by omega) ((HVh8.out.later hb9 (Nat.le_refl _)).later h (Nat.le_refl _)).str (HVw.out.later h (Nat.le_refl _)).str
  have HSameX : Hid (∀ g cap L ys w', StrV w8 (.slice (some ⟨g, 0, none⟩) (L + 3) cap) (L + 3) (some ⟨g, 0, none⟩) cap g (preOf a0 a1 (some a4) ++ ys) → Below w9.heap.size w9 w' → Calls Try.prog 14 #[.slice (some ⟨g, 0, none⟩) 3 cap, .slice ow 3 capw] w' (TrueB w')) := fun g cap L ys w' hV h =>
    same_true _ ow 3 cap capw g 0 gw 0 (getS (preOf a0 a1 (some a4))) w' (by omega) (((hV.later hb9 (Nat.le_refl _)).to_ 3 rfl).later h (Nat.le_refl _)) (HVw.out.later h (Nat.le_refl _)).str
  go_wp2_with fail
  refine (HSame.out _ (Below.refl _ _)).mono ?_
  rintro e w10 ⟨rfl, hb10⟩
  clear HSame
  go_wp2_with fail
  refine (HSameX.out g1 cap1 LA y1 _ HV18.out hb10).mono ?_
  rintro e w11 ⟨rfl, hb11'⟩
  have hb11 := hb10.trans (hb11'.mono hb10.size)
  clear hb10 hb11'
  go_wp2_with fail
  refine (HSameX.out g2 cap2 LL y2 _ HV28.out hb11).mono ?_
  rintro e w12 ⟨rfl, hb12'⟩
  have hb12 := hb11.trans (hb12'.mono hb11.size)
  clear hb11 hb12'
  go_wp2_with fail
  refine (HSameX.out g3 cap3 LR y3 _ HV38.out hb12).mono ?_
  rintro e w13 ⟨rfl, hb13'⟩
  have hb13 := hb12.trans (hb13'.mono hb12.size)
  have hb113 := hb19.trans (hb13.mono hb19.size)
  have hb813 := hb9.trans (hb13.mono hb9.size)
  clear hb12 hb13' HSameX HVw HVh8
  have HW1 := (show Hid _ from HV18.out.later hb813 (Nat.le_refl _))
  have HW2 := (show Hid _ from HV28.out.later hb813 (Nat.le_refl _))
  have HW3 := (show Hid _ from HV38.out.later hb813 (Nat.le_refl _))
  clear HV18 HV28 HV38 hb9 hb13 hb8 hb19 hb813 hb2
  go_wp2
  -- joined: the left part
  have HJ0 : Hid (OwnStrs w13 w13.heap.size (.slice none 0 0) (y2.take 0)) := by rw [List.take_zero]; exact OwnStrs.nil _ _
  go_loopw [24, 25] (fun v i wr => ∃ j : Nat, j ≤ LL ∧ i = .int .i64 ((j : Int) + 3) ∧ OwnStrs wr w13.heap.size v (y2.take j) ∧ Below w13.heap.size w13 wr) (fun _ i _ => LL + 3 - (intOf i).toNat)
  case atStart => exact ⟨0, Nat.zero_le _, rfl, HJ0.out, Below.refl _ _⟩
  case round =>
    obtain ⟨j, hj, rfl, hO, hbel⟩ := hrel
    clear HJ0
    by_cases hjl : j < LL
    · have hjl' : (j : Int) + 3 < ((LL + 3 : Nat) : Int) := by omega
      have c1 : wr.cell? ⟨g2, j + 3, none⟩ = some (.string (getS y2 j)) := (HW2.out.later hbel (Nat.le_refl _)).cell_from 3 rfl j (by omega)
      have HO := (show Hid _ from hO)
      have HT : Hid (y2.take (j + 1) = y2.take j ++ [getS y2 j]) := take_getS y2 j (by rw [HL2.out]; exact hjl)
      have HTl : Hid ((y2.take j).length ≤ j) := List.length_take_le _ _
      clear hO
      go_wp2_with (at_builtin; go_must (refine wpList_app_strs _ rfl _ _ rfl w13.heap.size _ _ rfl (OwnStrs.alloc HO.out _) (some ⟨wr.heap.size, 0, none⟩) 1 1 [getS y2 j] rfl rfl ?_ ?_ ?_ ?_ ?_))
      · intro h; cases h
      · intro ad had q y hy
        cases had
        have hq : q = 0 := by have := (List.getElem?_eq_some_iff.1 hy).1; simpa using this
        subst hq
        simp at hy
        subst hy
        exact cell_one_new _ _ _ 0 _ rfl
      · have := HTl.out; omega
      · have := hbel.size; simp; omega
      intro v' w14 hO14 hg14
      have hb14 := (OwnStrs.alloc HO.out _).grown (hbel.alloc hbel.size _) hg14
      have HO14 : Hid (OwnStrs w14 w13.heap.size v' (y2.take (j + 1))) := by
        show OwnStrs _ _ _ _
        rw [HT.out]; exact hO14
      clear hO14 hg14 HO HTl HT
      go_wp2
      go_roundw
      case rel => exact ⟨j + 1, by omega, by go_num, HO14.out, hb14⟩
      case measure => simp [intOf]; omega
    · obtain rfl : j = LL := by omega
      have hjl' : ¬ ((j : Int) + 3 < ((j + 3 : Nat) : Int)) := by omega
      have HJ1 : Hid (OwnStrs wr w13.heap.size u24 (y2 ++ y3.take 0)) := by
        show OwnStrs _ _ _ _
        rw [List.take_zero, List.append_nil, ← List.take_of_length_le (Nat.le_of_eq HL2.out)]; exact hO
      clear hO
      go_wp2
      -- joined: the right part
      go_loopw [24, 26] (fun v i wr => ∃ q : Nat, q ≤ LR ∧ i = .int .i64 ((q : Int) + 3) ∧ OwnStrs wr w13.heap.size v (y2 ++ y3.take q) ∧ Below w13.heap.size w13 wr) (fun _ i _ => LR + 3 - (intOf i).toNat)
      case atStart => exact ⟨0, Nat.zero_le _, rfl, HJ1.out, hbel⟩
      case round =>
        obtain ⟨q, hq, rfl, hO, hbelq⟩ := hrel
        clear HJ1
        by_cases hql : q < LR
        · have hql' : (q : Int) + 3 < ((LR + 3 : Nat) : Int) := by omega
          have c1 : wr.cell? ⟨g3, q + 3, none⟩ = some (.string (getS y3 q)) := (HW3.out.later hbelq (Nat.le_refl _)).cell_from 3 rfl q (by omega)
          have HO := (show Hid _ from hO)
          have HT : Hid (y3.take (q + 1) = y3.take q ++ [getS y3 q]) := take_getS y3 q (by rw [HL3.out]; exact hql)
          have HTl : Hid ((y2 ++ y3.take q).length ≤ j + q) := by
            show _ ≤ _
            rw [List.length_append, HL2.out]; have := List.length_take_le q y3; omega
          clear hO
          go_wp2_with (at_builtin; go_must (refine wpList_app_strs _ rfl _ _ rfl w13.heap.size _ _ rfl (OwnStrs.alloc HO.out _) (some ⟨wr.heap.size, 0, none⟩) 1 1 [getS y3 q] rfl rfl ?_ ?_ ?_ ?_ ?_))
          · intro h; cases h
          · intro ad had q' y hy
            cases had
            have hq' : q' = 0 := by have := (List.getElem?_eq_some_iff.1 hy).1; simpa using this
            subst hq'
            simp at hy
            subst hy
            exact cell_one_new _ _ _ 0 _ rfl
          · have := HTl.out; omega
          · have := hbelq.size; simp; omega
          intro v' w14 hO14 hg14
          have hb14 := (OwnStrs.alloc HO.out _).grown (hbelq.alloc hbelq.size _) hg14
          have HO14 : Hid (OwnStrs w14 w13.heap.size v' (y2 ++ y3.take (q + 1))) := by
            show OwnStrs _ _ _ _
            rw [HT.out, ← List.append_assoc]; first | exact hO14 | (rw [List.append_assoc]; exact hO14)
          clear hO14 hg14 HO HTl HT
          go_wp2
          go_roundw
          case rel => exact ⟨q + 1, by omega, by go_num, HO14.out, hb14⟩
          case measure => simp [intOf]; omega
        · obtain rfl : q = LR := by omega
          have hql' : ¬ ((q : Int) + 3 < ((q + 3 : Nat) : Int)) := by omega
          have hO2 : OwnStrs wr w13.heap.size u24 (y2 ++ y3) := by
            rw [← List.take_of_length_le (Nat.le_of_eq HL3.out)]; exact hO
          obtain ⟨oJ, capJ, gJ, hVJ⟩ := hO2.open_ LA (by rw [List.length_append, HL2.out, HL3.out, HSum.out]) (fun x hx => by
            rcases List.mem_append.1 hx with hx | hx
            · exact HVS.out _ x (HP2.out.mem_iff.1 hx)
            · exact HVS.out _ x (HP3.out.mem_iff.1 hx))
          have eJ := hVJ.form
          subst eJ
          have HVJ := (show Hid _ from hVJ)
          clear hO hO2 hVJ
          have HX1 := (show Hid _ from HW1.out.later hbelq (Nat.le_refl _))
          have HX2 := (show Hid _ from HW2.out.later hbelq (Nat.le_refl _))
          have HX3 := (show Hid _ from HW3.out.later hbelq (Nat.le_refl _))
          clear HW1 HW2 HW3
          obtain ⟨s1, hs1, hsl1q⟩ := slice_from g1 LA 3 cap1 f1
          have hsl1 : ∀ w, (Instr.slice 22 (.slice (some ⟨g1, 0, none⟩) (LA + 3) cap1) (some (.int .i64 3)) none none).run Try.prog w = .ok (.slice s1 LA (cap1 - 3)) w := hsl1q
          clear hsl1q
          obtain ⟨s2, hs2, hsl2q⟩ := slice_from g2 j 3 cap2 f2
          have hsl2 : ∀ w, (Instr.slice 22 (.slice (some ⟨g2, 0, none⟩) (j + 3) cap2) (some (.int .i64 3)) none none).run Try.prog w = .ok (.slice s2 j (cap2 - 3)) w := hsl2q
          clear hsl2q
          obtain ⟨s3, hs3, hsl3q⟩ := slice_from g3 q 3 cap3 f3
          have hsl3 : ∀ w, (Instr.slice 22 (.slice (some ⟨g3, 0, none⟩) (q + 3) cap3) (some (.int .i64 3)) none none).run Try.prog w = .ok (.slice s3 q (cap3 - 3)) w := hsl3q
          clear hsl3q
          have T1 : Hid (SlStr wr s1 LA g1 3 (getS y1)) := by
            have t := HX1.out.from_ 3 rfl s1 (by simpa using hs1)
            rw [Nat.add_sub_cancel] at t; exact t
          have T2 : Hid (SlStr wr s2 j g2 3 (getS y2)) := by
            have t := HX2.out.from_ 3 rfl s2 (by simpa using hs2)
            rw [Nat.add_sub_cancel] at t; exact t
          have T3 : Hid (SlStr wr s3 q g3 3 (getS y3)) := by
            have t := HX3.out.from_ 3 rfl s3 (by simpa using hs3)
            rw [Nat.add_sub_cancel] at t; exact t
          have HPJ : Hid (y1.Perm (y2 ++ y3)) := HP1.out.trans (by
            rw [ctxI_cut S n cut hcut, valsOf_app]; exact (HP2.out.append HP3.out).symm)
          have M0 : Hid (∀ w', Below wr.heap.size wr w' → Calls Try.prog 15 #[.slice s1 LA (cap1 - 3), .slice oJ LA capJ] w' (TrueB w')) := fun w' h =>
            multi_true s1 oJ LA _ capJ g1 3 gJ 0 (getS y1) (getS (y2 ++ y3)) w' (by omega) (T1.out.later h (Nat.le_refl _)) (HVJ.out.str.later h (Nat.le_refl _)) (cntF_perm HPJ.out LA HL1.out HVJ.out.len)
          have MX : Hid (∀ s L cc g ys I w1 w' v o cap gg, L ≤ LA → SlStr wr s L g 3 (getS ys) → ys.Perm (valsOf z I) → ys.length = L → Below wr.heap.size wr w1 → StrV w1 v L o cap gg (valsOf z I) → Below w1.heap.size w1 w' → Calls Try.prog 15 #[.slice s L cc, .slice o L cap] w' (TrueB w')) := fun s L cc g ys I w1 w' v o cap gg hLL hT hP hl hb hV hb' =>
            multi_true s o L cc cap g 3 gg 0 (getS ys) (getS (valsOf z I)) w' (by omega) ((hT.later hb (Nat.le_refl _)).later hb' (Nat.le_refl _)) (hV.str.later hb' (Nat.le_refl _)) (cntF_perm hP L hl hV.len)
          have hb1r := hb113.trans (hbelq.mono hb113.size)
          have HFin := (show Hid _ from hb1.trans (hb1r.mono hb1.size))
          have HV0 : Hid (∀ hi w', hi ≤ n → Below wr.heap.size wr w' → Calls Try.prog 16 #[.slice ga n c, .slice va vn vc, .map (some w.heap.size), .int .i64 0, .int .i64 (hi : Nat)] w' (StrsNew (valsOf z (ctxI S n 0 hi)) w')) := fun hi w' h1 h => HVal.out 0 hi w' (Nat.zero_le _) h1 (hb1r.trans (h.mono hb1r.size))
          have HVc : Hid (∀ w', Below wr.heap.size wr w' → Calls Try.prog 16 #[.slice ga n c, .slice va vn vc, .map (some w.heap.size), .int .i64 (cut : Nat), .int .i64 (n : Nat)] w' (StrsNew (valsOf z (ctxI S n cut n)) w')) := fun w' h => HVal.out cut n w' hcut (Nat.le_refl _) (hb1r.trans (h.mono hb1r.size))
          clear hbelq hbel hb113 HVal HSum
          go_wp2
          go_region_held3 (fun _ => True) (trivial) (first
            | (go_at_call_of 15 oJ; go_must (refine (M0.out _ (by exact (Below.refl _ _).drew)).mono ?_); rintro e x1 ⟨rfl, hx1⟩; have hy1 : Below wr.heap.size wr x1 := (Below.refl wr.heap.size wr).drew.trans hx1)
            | (go_at_call_of 15 oC; go_must (refine (MX.out s3 q _ g3 y3 (ctxI S n cut n) x6 x6 _ oC capC gC hLRb T3.out HP3.out HL3.out hy6 hVC (Below.refl _ _)).mono ?_); rintro e x7 ⟨rfl, hx7⟩; have hy7 : Below wr.heap.size wr x7 := hy6.trans (hx7.mono hy6.size))
            | (go_at_call_of 15 oB; go_must (refine (MX.out s2 j _ g2 y2 (ctxI S n 0 cut) x4 x4 _ oB capB gB hLLb T2.out HP2.out HL2.out hy4 hVB (Below.refl _ _)).mono ?_); rintro e x5 ⟨rfl, hx5⟩; have hy5 : Below wr.heap.size wr x5 := hy4.trans (hx5.mono hy4.size))
            | (go_at_call_of 15 oA; go_must (refine (MX.out s1 LA _ g1 y1 (ctxI S n 0 n) x2 x2 _ oA capA gA (Nat.le_refl _) T1.out HP1.out HL1.out hy2 hVA (Below.refl _ _)).mono ?_); rintro e x3 ⟨rfl, hx3⟩; have hy3 : Below wr.heap.size wr x3 := hy2.trans (hx3.mono hy2.size))
            | (go_at_call 16; have hgate := hy5; go_must (refine (HVc.out _ hy5).mono ?_); clear hgate; rintro e x6 ⟨vC, rfl, hOC, hx6⟩; obtain ⟨oC, capC, gC, hVC⟩ := hOC.open_ q HLR.out (HVS.out _); have eC := hVC.form; subst eC; have hy6 : Below wr.heap.size wr x6 := hy5.trans (hx6.mono hy5.size))
            | (go_at_call 16; have hgate := hy3; go_must (refine (HV0.out cut _ hcut hy3).mono ?_); clear hgate; rintro e x4 ⟨vB, rfl, hOB, hx4⟩; obtain ⟨oB, capB, gB, hVB⟩ := hOB.open_ j HLL.out (HVS.out _); have eB := hVB.form; subst eB; have hy4 : Below wr.heap.size wr x4 := hy3.trans (hx4.mono hy3.size))
            | (go_at_call 16; go_must (refine (HV0.out n _ (Nat.le_refl _) hy1).mono ?_); rintro e x2 ⟨vA, rfl, hOA, hx2⟩; obtain ⟨oA, capA, gA, hVA⟩ := hOA.open_ LA HLA.out (HVS.out _); have eA := hVA.form; subst eA; have hy2 : Below wr.heap.size wr x2 := hy1.trans (hx2.mono hy1.size)))
          all_goals
            go_wp2
            go_ret
            exact ⟨rfl, HFin.out.trans (hy7.mono HFin.out.size)⟩

end Go.Proofs.Qxb6619656a
