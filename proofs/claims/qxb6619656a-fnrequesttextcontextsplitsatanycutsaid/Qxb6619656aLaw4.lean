/-
  The walk of FnRequestTextPrincipalAddsItsValueNeverItsKind (4).
-/
import Derived.Test.Qxb6619656aLists
import Derived.Test.Qxb6619656aRbytes
import Derived.Test.Qxb6619656aTooBig
import Derived.Test.Qxb6619656aOpenS
import Derived.Deep.RegionHeld3
namespace Go.Proofs.Qxb6619656a
open Go.RowKit

theorem vals_size {w : World} {va : Option Addr} {vn : Nat} {z : SGrid} (hz : SGridIn w va vn z) (I : List Nat) : ∀ x, x ∈ valsOf z I → x.size ≤ maxLen := by
  intro x hx
  obtain ⟨i, _, h⟩ := List.mem_flatMap.1 hx
  obtain ⟨j, hj, rfl⟩ := List.mem_map.1 h
  exact (hz.cell i).size j (List.mem_range.1 hj)

theorem pre_size {a r : ByteArray} {p : Option ByteArray} (ha : a.size ≤ maxLen) (hr : r.size ≤ maxLen) (hp : ∀ v, p = some v → v.size ≤ maxLen) : ∀ x, x ∈ preOf a r p → x.size ≤ maxLen := by
  intro x hx
  cases p with
  | none => simp [preOf] at hx; rcases hx with rfl | rfl <;> assumption
  | some v => simp [preOf] at hx; rcases hx with rfl | rfl | rfl <;> first | assumption | exact hp _ rfl

/-- 'v[k:]' of a slice of strings: where it begins is told where it holds anything. -/
theorem slice_from (g L k cap : Nat) (h : L + k ≤ cap) : ∃ s : Option Addr, (0 < L → s = some ⟨g, k, none⟩) ∧ ∀ w, (Instr.slice 22 (.slice (some ⟨g, 0, none⟩) (L + k) cap) (some (.int .i64 (k : Int))) none none).run Try.prog w = .ok (.slice s L (cap - k)) w := by
  refine ⟨if cap = k then some ⟨g, 0, none⟩ else some ⟨g, k, none⟩, fun h0 => if_neg (by omega), fun w => ?_⟩
  have h1 := run_slice_l (P := Try.prog) (w := w) 22 (some ⟨g, 0, none⟩) (L + k) cap (by kernel_rfl) .i64 (k : Int) (by omega) (by omega)
  rw [h1]
  have h2 : (sizeOf (Try.prog.elem 22)).run Try.prog w = .ok 1 w := by kernel_rfl
  rw [h2]
  simp only [Result.andThen, sliced, Int.toNat_natCast, Nat.mul_one, Nat.add_sub_cancel, Option.map_some]
  by_cases e : cap = k
  · simp [e]
  · simp [e, Addr.add_lit]

theorem ReqRet.open_ {pre : List ByteArray} {z : SGrid} {I : List Nat} {w w' : World} {e : Ending} (h : ReqRet pre z I w e w') (k L : Nat) (hk : pre.length = k) (h0 : 0 < k) (hL : (valsOf z I).length = L)
    (hs1 : ∀ x, x ∈ pre → x.size ≤ maxLen) (hs2 : ∀ J x, x ∈ valsOf z J → x.size ≤ maxLen) :
    ∃ cap g ys, e = .returned (.slice (some ⟨g, 0, none⟩) (L + k) cap) ∧ StrV w' (.slice (some ⟨g, 0, none⟩) (L + k) cap) (L + k) (some ⟨g, 0, none⟩) cap g (pre ++ ys) ∧ ys.Perm (valsOf z I) ∧ ys.length = L ∧ Below w.heap.size w w' := by
  obtain ⟨v, ord, rfl, h1, h2, h3⟩ := h
  have hp := valsOf_perm z h2
  have hl : (valsOf z ord).length = L := by rw [hp.length_eq, hL]
  obtain ⟨ao, cap, g, hV⟩ := h1.open_ (L + k) (by rw [List.length_append, hk, hl]; omega) (fun x hx => by
    rcases List.mem_append.1 hx with hx | hx
    · exact hs1 x hx
    · exact hs2 ord x hx)
  have e1 := hV.str.addr (by omega)
  subst e1
  have e2 := hV.form
  subst e2
  exact ⟨cap, g, valsOf z ord, rfl, hV, hp, hl, h3⟩

set_option maxRecDepth 100000 in
set_option maxHeartbeats 1000000 in
theorem law4_mid (a0 a1 a2 a3 a4 : ByteArray) (ga : Option Addr) (n c gb go : Nat) (S : Nat → ByteArray) (va : Option Addr) (vn vc : Nat) (z : SGrid) (w : World) (h0 : a0.size ≤ maxLen) (h1 : a1.size ≤ maxLen) (h2 : a2.size ≤ maxLen) (h3 : a3.size ≤ maxLen) (h4 : a4.size ≤ maxLen)
    (hn : n ≤ maxLen) (hvn : vn ≤ maxLen) (hL : ∀ i, z.L i ≤ maxLen) (hS : SlStr w ga n gb go S) (hz : SGridIn w va vn z) :
    Calls Try.prog 4 #[.string a0, .string a1, .string a2, .string a3, .string a4, .slice ga n c, .slice va vn vc] w (TrueB w) := by
  have HB : Hid (∀ w', w' = w → Calls Try.prog 17 #[.string a0, .string a1, .string a2, .string a3, .string a4, .slice ga n c, .slice va vn vc] w' (BoolRet (fun b => b = true → n ≤ 1048576 ∧ vn ≤ 1048576 ∧ ∀ i, z.L i ≤ 1048576) w')) := fun w' h => by
    subst h; exact bytesReq17 a0 a1 a2 a3 a4 ga n c gb go S va vn vc z w' h0 h1 h2 h3 h4 hn hvn hL hS hz
  have HN : Hid (∀ w', w' = w → Calls Try.prog 10 #[.string a0, .string a1, .string a2, .string a3, .string a4, .slice ga n c, .slice va vn vc] w' (BoolRet (fun _ => True) w')) := fun w' h => by
    subst h; exact reqTooBig_any a0 a1 a2 a3 a4 ga n c gb go S va vn vc z w' h0 h1 h2 h3 h4 hn hvn hL hS hz
  have HS := (show Hid _ from hS)
  have HZ := (show Hid _ from hz)
  have HS0 : Hid (a0.size ≤ maxLen ∧ a1.size ≤ maxLen ∧ a4.size ≤ maxLen) := ⟨h0, h1, h4⟩
  clear hS hz hL h0 h1 h2 h3 h4 hn hvn
  go_enter Try.func4, Try.ntmps4
  go_wp2_with fail
  refine (HB.out _ rfl).mono ?_
  rintro e w' ⟨b, rfl, hb, rfl⟩
  cases b
  · clear hb
    go_wp2
    go_ret
    exact ⟨rfl, Below.refl _ _⟩
  obtain ⟨hn, hvn, hL⟩ := hb rfl
  have HL := (show Hid _ from hL)
  clear hb hL
  go_wp2_with fail
  refine (HN.out _ rfl).mono ?_
  rintro e w' ⟨b, rfl, _, rfl⟩
  cases b
  rotate_left
  · go_wp2
    go_ret
    exact ⟨rfl, Below.refl _ _⟩
  clear HB HN
  go_wp2_with fail
  refine (lastIndex_any ga n c gb go S w hn HS.out).mono ?_
  rintro e w1 ⟨rfl, hM1, hb1⟩
  have hbl := hM1.lt
  have HM1 := (show Hid _ from hM1)
  clear hM1
  go_wp2_with fail
  refine (contextOf_any ga n c gb go S va vn vc z w.heap.size n 0 n w1 hn hvn (Nat.zero_le _) (Nat.le_refl _) (HS.out.later hb1 (Nat.le_refl _)) (HZ.out.later hb1 (Nat.le_refl _)) HM1.out).mono ?_
  rintro e w2 ⟨rfl, hC2, hb2⟩
  have hb02 := hb1.trans (hb2.mono hb1.size)
  have HM2 := (show Hid _ from IntMap.below HM1.out hb2 hbl)
  have hcl := hC2.lt
  have HC2 := (show Hid _ from hC2)
  clear hC2 hb1 HM1
  go_wp2_with fail
  refine (valuesOf_any ga n c gb go S va vn vc z w.heap.size n 0 n w2 hn hvn (Nat.zero_le _) (Nat.le_refl _) HL.out (HS.out.later hb02 (Nat.le_refl _)) (HZ.out.later hb02 (Nat.le_refl _)) HM2.out).mono ?_
  rintro e w3 ⟨v0, rfl, hO3, hb3⟩
  have hb03 := hb02.trans (hb3.mono hb02.size)
  have HC3 := (show Hid _ from CtxMap.below HC2.out hb3 hcl)
  generalize w1.heap.size = bm at *
  clear HC2 HM2 hb02 hb2
  obtain ⟨I, hI⟩ : ∃ I, I = ctxI S n 0 n := ⟨_, rfl⟩
  rw [← hI] at hO3 HC3
  have hIlen : I.length ≤ 1048576 := by rw [hI]; have := ctxI_len S n 0 n; omega
  have HInd : Hid I.Nodup := by rw [hI]; exact ctxI_nodup S n 0 n
  have HInj : Hid (∀ i j, i ∈ I → j ∈ I → S i = S j → i = j) := by rw [hI]; exact ctxI_inj S n 0 n
  have HIsz : Hid (∀ i, i ∈ I → (S i).size ≤ maxLen) := by rw [hI]; exact fun i hi => HS.out.size i ((ctxI_mem S n 0 n i).1 hi).1
  clear hI
  have hbm3 := HC3.out
  have hbm : bm < w3.heap.size := CtxMap.lt HC3.out
  clear hbm3 hcl
  have HR : Hid (∀ hp kd w', Below w3.heap.size w3 w' → Calls Try.prog 12 #[.string a0, .string a1, .bool hp, .string kd, .string a4, .map (some bm)] w' (ReqRet (preOf a0 a1 (if hp then some a4 else none)) z I w')) := fun hp kd w' h =>
    zzReq_map a0 a1 kd a4 hp S z I bm n va vn w' hIlen HL.out HInd.out HInj.out HIsz.out (HZ.out.later (hb03.trans (h.mono hb03.size)) (Nat.le_refl _)) (CtxMap.below HC3.out h hbm)
  obtain ⟨L, hLe⟩ : ∃ L, (valsOf z I).length = L := ⟨_, rfl⟩
  have hLb : L ≤ 1099511627776 := by
    have := valsOf_len z 1048576 HL.out I
    have h4 : I.length * 1048576 ≤ 1048576 * 1048576 := Nat.mul_le_mul_right _ hIlen
    omega
  obtain ⟨o0, cap0, g0, hV0⟩ := hO3.open_ L hLe (vals_size HZ.out I)
  have eV0 := hV0.form
  subst eV0
  have HV0 := (show Hid _ from hV0)
  have HLe := (show Hid _ from hLe)
  clear hO3 hV0 hLe
  go_wp2_with fail
  refine (HR.out _ _ _ (Below.refl _ _)).mono ?_
  intro e w4 h4
  obtain ⟨cap1, g1, y1, rfl, hV1, hp1, hl1, hb4⟩ := h4.open_ 2 L rfl (by omega) HLe.out (pre_size HS0.out.1 HS0.out.2.1 (fun v hv => by simp at hv)) (fun J => vals_size HZ.out J)
  have HV1 := (show Hid _ from hV1)
  have HP1 := (show Hid _ from hp1)
  have HL1 := (show Hid _ from hl1)
  clear h4 hV1 hp1 hl1
  go_wp2_with fail
  refine (HR.out _ _ _ hb4).mono ?_
  intro e w5 h5
  obtain ⟨cap2, g2, y2, rfl, hV2, hp2, hl2, hb5'⟩ := h5.open_ 3 L rfl (by omega) HLe.out (pre_size HS0.out.1 HS0.out.2.1 (fun v hv => by simp at hv; rw [← hv]; exact HS0.out.2.2)) (fun J => vals_size HZ.out J)
  have hb5 := hb4.trans (hb5'.mono hb4.size)
  have HV2 := (show Hid _ from hV2)
  have HP2 := (show Hid _ from hp2)
  have HL2 := (show Hid _ from hl2)
  clear h5 hV2 hp2 hl2
  go_wp2_with fail
  refine (HR.out _ _ _ hb5).mono ?_
  intro e w6 h6
  obtain ⟨cap3, g3, y3, rfl, hV3, hp3, hl3, hb6'⟩ := h6.open_ 3 L rfl (by omega) HLe.out (pre_size HS0.out.1 HS0.out.2.1 (fun v hv => by simp at hv; rw [← hv]; exact HS0.out.2.2)) (fun J => vals_size HZ.out J)
  have hb6 := hb5.trans (hb6'.mono hb5.size)
  have W0 := HV0.out.later hb6 (Nat.le_refl _)
  have W1 := HV1.out.later (hb5'.trans (hb6'.mono hb5'.size)) (Nat.le_refl _)
  have W2 := HV2.out.later hb6' (Nat.le_refl _)
  have f1 := W1.fits
  have f2 := W2.fits
  have f3 := hV3.fits
  have x10 : w6.cell? ⟨g1, 0, none⟩ = some (.string a0) := W1.str.cell 0 (by omega)
  have x11 : w6.cell? ⟨g1, 1, none⟩ = some (.string a1) := W1.str.cell 1 (by omega)
  have x20 : w6.cell? ⟨g2, 0, none⟩ = some (.string a0) := W2.str.cell 0 (by omega)
  have x21 : w6.cell? ⟨g2, 1, none⟩ = some (.string a1) := W2.str.cell 1 (by omega)
  have x22 : w6.cell? ⟨g2, 2, none⟩ = some (.string a4) := W2.str.cell 2 (by omega)
  have x30 : w6.cell? ⟨g3, 0, none⟩ = some (.string a0) := hV3.str.cell 0 (by omega)
  have x31 : w6.cell? ⟨g3, 1, none⟩ = some (.string a1) := hV3.str.cell 1 (by omega)
  have x32 : w6.cell? ⟨g3, 2, none⟩ = some (.string a4) := hV3.str.cell 2 (by omega)
  have HW0 := (show Hid _ from W0)
  have HW1 := (show Hid _ from W1)
  have HW2 := (show Hid _ from W2)
  have HW3 := (show Hid _ from hV3)
  have HP3 := (show Hid _ from hp3)
  have HL3 := (show Hid _ from hl3)
  have HB6 := (show Hid _ from hb03.trans (hb6.mono hb03.size))
  clear HV0 HV1 HV2 W0 W1 W2 hV3 hp3 hl3 h6 hb4 hb5 hb5' hb6' hb3 HR HC3
  go_wp2_with fail
  obtain ⟨s1, hs1, hsl1q⟩ := slice_from g1 L 2 cap1 f1
  have hsl1 : ∀ w, (Instr.slice 22 (.slice (some ⟨g1, 0, none⟩) (L + 2) cap1) (some (.int .i64 2)) none none).run Try.prog w = .ok (.slice s1 L (cap1 - 2)) w := hsl1q
  clear hsl1q
  obtain ⟨s2, hs2, hsl2q⟩ := slice_from g2 L 3 cap2 f2
  have hsl2 : ∀ w, (Instr.slice 22 (.slice (some ⟨g2, 0, none⟩) (L + 3) cap2) (some (.int .i64 3)) none none).run Try.prog w = .ok (.slice s2 L (cap2 - 3)) w := hsl2q
  clear hsl2q
  obtain ⟨s3, hs3, hsl3q⟩ := slice_from g3 L 3 cap3 f3
  have hsl3 : ∀ w, (Instr.slice 22 (.slice (some ⟨g3, 0, none⟩) (L + 3) cap3) (some (.int .i64 3)) none none).run Try.prog w = .ok (.slice s3 L (cap3 - 3)) w := hsl3q
  clear hsl3q
  have HM1 : Hid (∀ w', Below w6.heap.size w6 w' → Calls Try.prog 15 #[.slice s1 L (cap1 - 2), .slice o0 L cap0] w' (TrueB w')) := fun w' h => by
    have t1 := (HW1.out.from_ 2 rfl s1 (by simpa using hs1))
    rw [Nat.add_sub_cancel] at t1
    exact multi_true s1 o0 L (cap1 - 2) cap0 g1 2 g0 0 (getS y1) (getS (valsOf z I)) w' (by omega) (t1.later h (Nat.le_refl _)) (HW0.out.str.later h (Nat.le_refl _)) (cntF_perm HP1.out L HL1.out HLe.out)
  have HM2 : Hid (∀ w', Below w6.heap.size w6 w' → Calls Try.prog 15 #[.slice s2 L (cap2 - 3), .slice s1 L (cap1 - 2)] w' (TrueB w')) := fun w' h => by
    have t1 := (HW1.out.from_ 2 rfl s1 (by simpa using hs1))
    have t2 := (HW2.out.from_ 3 rfl s2 (by simpa using hs2))
    rw [Nat.add_sub_cancel] at t1 t2
    exact multi_true s2 s1 L (cap2 - 3) (cap1 - 2) g2 3 g1 2 (getS y2) (getS y1) w' (by omega) (t2.later h (Nat.le_refl _)) (t1.later h (Nat.le_refl _)) (cntF_perm (HP2.out.trans HP1.out.symm) L HL2.out HL1.out)
  have HM3 : Hid (∀ w', Below w6.heap.size w6 w' → Calls Try.prog 15 #[.slice s3 L (cap3 - 3), .slice s2 L (cap2 - 3)] w' (TrueB w')) := fun w' h => by
    have t3 := (HW3.out.from_ 3 rfl s3 (by simpa using hs3))
    have t2 := (HW2.out.from_ 3 rfl s2 (by simpa using hs2))
    rw [Nat.add_sub_cancel] at t3 t2
    exact multi_true s3 s2 L (cap3 - 3) (cap2 - 3) g3 3 g2 3 (getS y3) (getS y2) w' (by omega) (t3.later h (Nat.le_refl _)) (t2.later h (Nat.le_refl _)) (cntF_perm (HP3.out.trans HP2.out.symm) L HL3.out HL2.out)
  clear x10 x11 x20 x21 x22 x30 x31 x32 HW0 HW1 HW2 HW3 hs1 hs2 hs3
  go_region_held3 (fun _ => True) (trivial) (first
    | (go_at_call_of 15 o0; go_must (refine (HM1.out _ (by exact (Below.refl _ _).drew)).mono ?_); rintro e w7 ⟨rfl, hb7⟩; have hc7 : Below w6.heap.size w6 w7 := (Below.refl w6.heap.size w6).drew.trans hb7)
    | (go_at_call_of 15 s1; go_must (refine (HM2.out _ hc7).mono ?_); rintro e w8 ⟨rfl, hb8⟩; have hc8 : Below w6.heap.size w6 w8 := hc7.trans (hb8.mono hc7.size))
    | (go_at_call_of 15 s3; go_must (refine (HM3.out _ hc8).mono ?_); rintro e w9 ⟨rfl, hb9⟩; have hc9 : Below w6.heap.size w6 w9 := hc8.trans (hb9.mono hc8.size)))
  all_goals
    go_wp2
    go_ret
    exact ⟨rfl, HB6.out.trans (hc9.mono HB6.out.size)⟩

theorem Strs.slStr {w : World} {a : Option Addr} {n c : Nat} {z : Strs} (h : StrsIn w a n c z) : SlStr w a n z.b z.o z.at_ := ⟨h.addr, h.cell, h.size⟩

theorem walk4 (a0 a1 a2 a3 a4 : ByteArray) (ga : Option Addr) (n c : Nat) (va : Option Addr) (vn vc : Nat) (y : Strs) (z : SGrid) (w : World) (h0 : a0.size ≤ maxLen) (h1 : a1.size ≤ maxLen) (h2 : a2.size ≤ maxLen) (h3 : a3.size ≤ maxLen) (h4 : a4.size ≤ maxLen) (hy : StrsIn w ga n c y) (hz : SGridArg w va vn vc z) :
    Calls Try.prog 4 #[.string a0, .string a1, .string a2, .string a3, .string a4, .slice ga n c, .slice va vn vc] w (TrueB w) :=
  law4_mid a0 a1 a2 a3 a4 ga n c y.b y.o y.at_ va vn vc z w h0 h1 h2 h3 h4 hy.len hz.len hz.lens (Strs.slStr hy) hz.grid

end Go.Proofs.Qxb6619656a
