/-
  The walk of FnTransmitSlotScript (3).
-/
import Derived.Test.Qxb6623390aPlain
import Derived.Test.Qxb6623390aOpen
import Derived.Deep.RegionHeld3
namespace Go.Proofs.Qxb6623390a
open Go.RowKit

/-- What the law answers: true, and nothing old has turned. -/
def Told (w : World) (e : Ending) (w' : World) : Prop := e = .returned (.bool true) ∧ Below w.heap.size w w'
theorem Told.same (w : World) : Told w (.returned (.bool true)) w := ⟨rfl, Below.refl _ _⟩

theorem StrIn.later {w w' : World} {a : Option Addr} {n c k : Nat} {z : StrI} (h : StrIn w a n c k z) (hb : Below w.heap.size w w') : StrIn w' a n c k z :=
  ⟨h.len, h.addr, fun i hi f hf => (hb.cell (p := ⟨z.b, z.o + i * k + f, none⟩) (World.block_lt_of_cell? _ _ (h.cell i hi f hf))).trans (h.cell i hi f hf)⟩

def upTo (k : Nat) (F : Nat → Nat → Int) : Nat → Nat → Int := fun i f => if i < k then F i f else 0

theorem upTo_put2 (k : Nat) (F : Nat → Nat → Int) (i f : Nat) (hf : f < 2) : put2 (upTo k F) k (F k 0) (F k 1) i f = upTo (k + 1) F i f := by
  unfold put2 upTo
  by_cases e : i = k
  · subst e; rcases (by omega : f = 0 ∨ f = 1) with rfl | rfl <;> simp
  · by_cases e2 : i < k
    · rw [if_neg e, if_pos e2, if_pos (by omega)]
    · rw [if_neg e, if_neg e2, if_neg (by omega)]
theorem upTo_put5 (k : Nat) (F : Nat → Nat → Int) (i f : Nat) : put5 (upTo k F) k (F k) i f = upTo (k + 1) F i f := by
  unfold put5 upTo
  by_cases e : i = k
  · subst e; simp
  · by_cases e2 : i < k
    · rw [if_neg e, if_pos e2, if_pos (by omega)]
    · rw [if_neg e, if_neg e2, if_neg (by omega)]

theorem row1_cell {w : World} {B g n cap i : Nat} {e : TypeId} {G : Nat → Int} (h : RowI w B e 1 g n cap (fun c _ => G c)) (hi : i < n) : w.cell? ⟨g, i, none⟩ = some (.int .i64 (G i)) := by
  have := h.cell hi (f := 0) (by omega)
  rwa [Nat.mul_one, Nat.add_zero] at this
theorem row1_set {w : World} {B g n cap i : Nat} {e : TypeId} {G G' : Nat → Int} (h : RowI w B e 1 g n cap (fun c _ => G c)) (hi : i < n) (v : Int) (h1 : G' i = v) (h2 : ∀ c, c ≠ i → G' c = G c) :
    RowI (w.setCell ⟨g, i, none⟩ (.int .i64 v)) B e 1 g n cap (fun c _ => G' c) ∧ w.grownBy (w.setCell ⟨g, i, none⟩ (.int .i64 v)) (some g) := by
  have := h.set hi (f := 0) (by omega) v
  rw [Nat.mul_one, Nat.add_zero] at this
  refine ⟨this.1.eq fun c _ f hf => ?_, this.2⟩
  obtain rfl : f = 0 := by omega
  show (if c = i ∧ 0 = 0 then v else G c) = G' c
  by_cases e : c = i
  · subst e; rw [if_pos ⟨rfl, rfl⟩, h1]
  · rw [if_neg (fun x => e x.1), h2 c e]

theorem Try.info3 : (Try.prog.info? 3).map (fun i => (i.zero, i.size, i.bytes)) = some (some (.int .i64 0), 1, 8) := by kernel_rfl

/-- The model's two rows behind a of the transmissions. -/
structure Rows2 (B : Nat) (w w' : World) (g1 g2 n : Nat) (T : Nat → Nat) (a : Nat) : Prop where
  cnt : RowI w' B 3 1 g1 n n (fun c _ => ((cntT T c a : Nat) : Int))
  fst : RowI w' B 3 1 g2 n n (fun c _ => ((fstT T c a : Nat) : Int))
  ne : g1 ≠ g2
  bel : Below B w w'

theorem Rows2.step {B : Nat} {w w' : World} {g1 g2 n : Nat} {T : Nat → Nat} {a : Nat} (h : Rows2 B w w' g1 g2 n T a) (hT : T a < n) :
    (cntT T (T a) a = 0 → ∃ v, w'.cell? ⟨g2, T a, none⟩ = some v ∧ w'.frozen? ⟨g2, T a, none⟩ = false ∧ (w'.setCell ⟨g2, T a, none⟩ (.int .i64 (a : Int))).cell? ⟨g1, T a, none⟩ = some (.int .i64 ((cntT T (T a) a : Nat) : Int)) ∧ (w'.setCell ⟨g2, T a, none⟩ (.int .i64 (a : Int))).frozen? ⟨g1, T a, none⟩ = false ∧
      Rows2 B w ((w'.setCell ⟨g2, T a, none⟩ (.int .i64 (a : Int))).setCell ⟨g1, T a, none⟩ (.int .i64 (((cntT T (T a) a : Nat) : Int) + 1))) g1 g2 n T (a + 1)) ∧
    (cntT T (T a) a ≠ 0 → Rows2 B w (w'.setCell ⟨g1, T a, none⟩ (.int .i64 (((cntT T (T a) a : Nat) : Int) + 1))) g1 g2 n T (a + 1)) := by
  have hB : B ≤ w'.heap.size := by have := h.cnt.lt; omega
  have ec : ((cntT T (T a) (a + 1) : Nat) : Int) = ((cntT T (T a) a : Nat) : Int) + 1 := by simp [cntT]
  have eo : ∀ c, c ≠ T a → ((cntT T c (a + 1) : Nat) : Int) = ((cntT T c a : Nat) : Int) := fun c hc => by simp [cntT, show ¬ T a = c from fun e => hc e.symm]
  have fo : ∀ c, c ≠ T a → ((fstT T c (a + 1) : Nat) : Int) = ((fstT T c a : Nat) : Int) := fun c hc => by simp [fstT, show ¬ T a = c from fun e => hc e.symm]
  refine ⟨fun h0 => ?_, fun h0 => ?_⟩
  · obtain ⟨r1, k1⟩ := row1_set (G' := fun c => ((fstT T c (a + 1) : Nat) : Int)) h.fst hT (a : Int) (by simp [fstT, h0]) fo
    have c1 := h.cnt.kept k1 (by simpa using h.ne)
    obtain ⟨r2, k2⟩ := row1_set (G' := fun c => ((cntT T c (a + 1) : Nat) : Int)) c1 hT _ ec eo
    exact ⟨_, row1_cell h.fst hT, h.fst.frozen _, row1_cell c1 hT, c1.frozen _, ⟨r2, r1.kept k2 (by simpa using h.ne.symm), h.ne, (h.bel.grown k1 hB (fun k e => by cases e; exact h.fst.lt.1)).grown k2 (by have := k1.size; omega) (fun k e => by cases e; exact h.cnt.lt.1)⟩⟩
  · obtain ⟨r2, k2⟩ := row1_set (G' := fun c => ((cntT T c (a + 1) : Nat) : Int)) h.cnt hT _ ec eo
    refine ⟨r2, (h.fst.kept k2 (by simpa using h.ne.symm)).eq fun c _ f _ => ?_, h.ne, h.bel.grown k2 hB (fun k e => by cases e; exact h.cnt.lt.1)⟩
    show ((fstT T c a : Nat) : Int) = ((fstT T c (a + 1) : Nat) : Int)
    by_cases e : c = T a
    · subst e; simp [fstT, h0]
    · exact (fo c e).symm

theorem Rows2.later {B : Nat} {w w' w'' : World} {g1 g2 n : Nat} {T : Nat → Nat} {a : Nat} (h : Rows2 B w w' g1 g2 n T a) (hb : Below w'.heap.size w' w'') : Rows2 B w w'' g1 g2 n T a :=
  ⟨h.cnt.at_ (hb.block _ h.cnt.lt.2), h.fst.at_ (hb.block _ h.fst.lt.2), h.ne, h.bel.trans (hb.mono (by have := h.cnt.lt; omega))⟩

set_option maxRecDepth 100000 in
set_option maxHeartbeats 8000000 in
theorem walk3 (ca : Option Addr) (cn cc : Nat) (sa : Option Addr) (sn sc : Nat) (s : Int) (ta : Option Addr) (tn tc : Nat) (zc zs zt : StrI) (w : World)
    (hc : StrIn w ca cn cc 2 zc) (hs : StrIn w sa sn sc 5 zs) (_hsw : (Lit.int .i64 s).wf = true) (ht : StrIn w ta tn tc 6 zt) :
    Calls Try.prog 3 #[.slice ca cn cc, .slice sa sn sc, .int .i64 s, .slice ta tn tc] w (Told w) := by
  have HBY : Hid (Calls Try.prog 4 #[.slice ca cn cc, .slice sa sn sc, .int .i64 s, .slice ta tn tc] w (BoolRet w)) := bytes_any ca cn cc sa sn sc s ta tn tc w hc.len hs.len ht.len
  have hcn := hc.len
  have hsn := hs.len
  have htn := ht.len
  unfold maxLen at hcn hsn htn
  have HC := (show Hid _ from hc)
  have HS := (show Hid _ from hs)
  have HT := (show Hid _ from ht)
  clear hc hs ht _hsw
  go_enter Try.func3, Try.ntmps3
  go_wp2_with fail
  refine HBY.out.mono ?_
  rintro e w' ⟨b, rfl, rfl⟩
  clear HBY
  cases b with
  | false =>
    go_wp2
    go_ret
    exact Told.same _
  | true =>
  by_cases h1 : (16384 : Int) < (cn : Int)
  · go_wp2
    go_ret
    exact Told.same _
  by_cases h2 : (8192 : Int) < (sn : Int)
  · go_wp2
    go_ret
    exact Told.same _
  by_cases h3 : (8192 : Int) < (tn : Int)
  · go_wp2
    go_ret
    exact Told.same _
  go_wp2
  go_loop [9] (fun i => ∃ (k : Nat), k ≤ tn ∧ i = .int .i64 k ∧ ∀ j, j < k → 0 ≤ zt.at_ j 0 ∧ zt.at_ j 0 ≤ 65536) (fun i => tn - (intOf i).toNat)
  case atStart => exact ⟨0, Nat.zero_le _, rfl, fun j hj => absurd hj (Nat.not_lt_zero _)⟩
  case round =>
  obtain ⟨k, hk, rfl, hall⟩ := hrel
  have HALL := (show Hid _ from hall)
  clear hall
  by_cases hlt : k < tn
  · obtain rfl := HT.out.addr (by omega)
    have hcell := HT.out.cell k hlt 0 (by omega)
    rw [Nat.add_zero] at hcell
    have hlt' : (k : Int) < (tn : Int) := by omega
    by_cases hb1 : zt.at_ k 0 < 0
    · go_wp2
      go_ret
      exact Told.same _
    by_cases hb2 : 65536 < zt.at_ k 0
    · go_wp2
      go_ret
      exact Told.same _
    go_wp2
    go_round
    case rel =>
      refine ⟨k + 1, by omega, by go_num, fun j hj => ?_⟩
      by_cases e : j = k
      · subst e; omega
      · exact HALL.out j (by omega)
    case measure => simp [intOf]; omega
  obtain rfl : k = tn := by omega
  obtain ⟨T, hT⟩ : ∃ T : Nat → Nat, ∀ j, j < k → (T j : Int) = zt.at_ j 0 ∧ T j ≤ 65536 := ⟨fun j => (zt.at_ j 0).toNat, fun j hj => by have := HALL.out j hj; show ((zt.at_ j 0).toNat : Int) = _ ∧ (zt.at_ j 0).toNat ≤ _; omega⟩
  have HTT := (show Hid _ from hT)
  clear hT HALL
  have HN : Hid (Calls Try.prog 5 #[.int .i64 cn, .int .i64 sn] w (AirRet w.heap.size cn sn w)) := newAir_any cn sn w (by omega) (by omega)
  go_wp2_with fail
  refine HN.out.mono ?_
  rintro e w1 ⟨ab, rfl, hA1, hbe1⟩
  have A1 := (show Hid _ from hA1)
  have B1 := (show Hid _ from hbe1)
  clear hA1 hbe1 HN hlt
  go_wp2_with fail
  go_loopw [11] (fun i wr => ∃ (q : Nat), q ≤ cn ∧ i = .int .i64 q ∧ Air w.heap.size wr ab cn sn (upTo q zc.at_) (fun _ _ => 0) ∧ Below w.heap.size w wr) (fun i _ => cn - (intOf i).toNat)
  case atStart => exact ⟨0, Nat.zero_le _, rfl, Air.eq A1.out rfl rfl (fun _ _ _ _ => rfl) (fun _ _ _ _ => rfl), B1.out⟩
  case round =>
  obtain ⟨q, hq, rfl, hA, hbe⟩ := hrel
  have A2 := (show Hid _ from hA)
  have B2 := (show Hid _ from hbe)
  clear hA hbe A1 B1
  by_cases hlt : q < cn
  · obtain rfl := HC.out.addr (by omega)
    have hlt' : (q : Int) < (cn : Int) := by omega
    have d0 := (HC.out.later B2.out).cell q hlt 0 (by omega)
    have d1 := (HC.out.later B2.out).cell q hlt 1 (by omega)
    rw [Nat.add_zero] at d0
    have HSC : Hid (Calls Try.prog 6 #[.pointer (some ⟨ab, 0, none⟩), .int .i64 q, .int .i64 (zc.at_ q 0), .int .i64 (zc.at_ q 1)] wr.drew (AirNow w.heap.size ab cn sn (put2 (upTo q zc.at_) q (zc.at_ q 0) (zc.at_ q 1)) (fun _ _ => 0) wr.drew)) := setChannel_any _ ab cn sn q _ _ _ _ wr.drew (by omega) hlt (Air.later A2.out (Below.refl _ _).drew)
    go_wp2
    go_region_with (go_at_call 6; go_must (refine HSC.out.mono ?_); rintro e x1 ⟨vv, rfl, ha1, hx1⟩; have HA1 := (show Hid _ from ha1); have HX1 := (show Hid _ from hx1); clear ha1 hx1)
    all_goals
      go_wp2
      go_roundw
      case rel => exact ⟨q + 1, by omega, by go_num, Air.eq HA1.out rfl rfl (fun i _ f hf => upTo_put2 q zc.at_ i f hf) (fun _ _ _ _ => rfl), B2.out.drew.trans HX1.out⟩
      case measure => simp [intOf]; omega
  obtain rfl : q = cn := by omega
  go_wp2_with fail
  go_loopw [12] (fun i wr => ∃ (p : Nat), p ≤ sn ∧ i = .int .i64 p ∧ Air w.heap.size wr ab q sn (upTo q zc.at_) (upTo p zs.at_) ∧ Below w.heap.size w wr) (fun i _ => sn - (intOf i).toNat)
  case atStart => exact ⟨0, Nat.zero_le _, rfl, Air.eq A2.out rfl rfl (fun _ _ _ _ => rfl) (fun _ _ _ _ => rfl), B2.out⟩
  case round =>
  clear A2 B2 hlt
  obtain ⟨p, hp, rfl, hA, hbe⟩ := hrel
  have A3 := (show Hid _ from hA)
  have B3 := (show Hid _ from hbe)
  clear hA hbe
  by_cases hlt : p < sn
  · obtain rfl := HS.out.addr (by omega)
    have hlt' : (p : Int) < (sn : Int) := by omega
    have d0 := (HS.out.later B3.out).cell p hlt 0 (by omega)
    have d1 := (HS.out.later B3.out).cell p hlt 1 (by omega)
    have d2 := (HS.out.later B3.out).cell p hlt 2 (by omega)
    have d3 := (HS.out.later B3.out).cell p hlt 3 (by omega)
    have d4 := (HS.out.later B3.out).cell p hlt 4 (by omega)
    rw [Nat.add_zero] at d0
    have HM : Hid (∀ w', Calls Try.prog 8 #[.int .i64 (zs.at_ p 0), .int .i64 (zs.at_ p 1), .int .i64 (zs.at_ p 2), .int .i64 (zs.at_ p 3), .int .i64 (zs.at_ p 4)] w' (ValNew (msgV (zs.at_ p)) w')) := fun w' => makeMessage_any (zs.at_ p) w'
    have HSS : Hid (∀ w', Below wr.heap.size wr w' → Calls Try.prog 7 #[.pointer (some ⟨ab, 0, none⟩), .int .i64 p, msgV (zs.at_ p)] w' (AirNow w.heap.size ab q sn (upTo q zc.at_) (put5 (upTo p zs.at_) p (zs.at_ p)) w')) := fun w' h => setSent_any _ ab q sn p _ _ _ w' (by omega) hlt (Air.later A3.out h)
    go_wp2_with fail
    refine (HM.out _).mono ?_
    rintro e x1 ⟨rfl, hx1⟩
    have hy1 : Below wr.heap.size wr x1 := ((Below.refl _ wr).alloc (Nat.le_refl _) _).trans (hx1.mono (by simp))
    have HY1 := (show Hid _ from hy1)
    clear hx1 hy1 HM
    go_wp2_with fail
    refine (HSS.out _ HY1.out).mono ?_
    rintro e x2 ⟨vv, rfl, ha2, hx2⟩
    have HA2 := (show Hid _ from ha2)
    have HX2 := (show Hid _ from hx2)
    clear ha2 hx2 HSS
    go_wp2
    go_roundw
    case rel => exact ⟨p + 1, by omega, by go_num, Air.eq HA2.out rfl rfl (fun _ _ _ _ => rfl) (fun i _ f _ => upTo_put5 p zs.at_ i f), (B3.out.trans (HY1.out.mono B3.out.size)).trans HX2.out⟩
    case measure => simp [intOf]; omega
  obtain rfl : p = sn := by omega
  go_wp2_with fail
  go_loopw [14] (fun i wr => ∃ (j : Nat), j ≤ k ∧ i = .int .i64 j ∧ Air w.heap.size wr ab (nAt q T j) (p + j) (chAt q p zc.at_ s T j) (logAt p zs.at_ (fun j f => zt.at_ j (f + 1))) ∧ Below w.heap.size w wr) (fun i _ => k - (intOf i).toNat)
  case atStart =>
    refine ⟨0, Nat.zero_le _, rfl, Air.eq A3.out rfl rfl (fun i hi f _ => ?_) (fun i hi f _ => ?_), B3.out⟩
    · have e0 : chAt q p zc.at_ s T 0 i f = ext q zc.at_ i f := by simp [chAt, cntT]
      rw [e0]; rfl
    · show upTo p zs.at_ i f = if i < p then zs.at_ i f else _
      unfold upTo
      rw [if_pos hi, if_pos hi]
  case round =>
  clear A3 B3 hlt
  obtain ⟨j, hj, rfl, hA, hbe⟩ := hrel
  have A4 := (show Hid _ from hA)
  have B4 := (show Hid _ from hbe)
  clear hA hbe
  by_cases hlt : j < k
  · obtain rfl := HT.out.addr (by omega)
    have hlt' : (j : Int) < (k : Int) := by omega
    obtain ⟨hTj, hTl⟩ := HTT.out j hlt
    have d0 := (HT.out.later B4.out).cell j hlt 0 (by omega)
    have d1 := (HT.out.later B4.out).cell j hlt 1 (by omega)
    have d2 := (HT.out.later B4.out).cell j hlt 2 (by omega)
    have d3 := (HT.out.later B4.out).cell j hlt 3 (by omega)
    have d4 := (HT.out.later B4.out).cell j hlt 4 (by omega)
    have d5 := (HT.out.later B4.out).cell j hlt 5 (by omega)
    rw [Nat.add_zero, ← hTj] at d0
    clear hTj
    have hcnj : nAt q T j ≤ 65537 := nAt_le q T 65537 (by omega) j (fun i hi => by have := (HTT.out i (by omega)).2; omega)
    have HM : Hid (∀ w', Calls Try.prog 8 #[.int .i64 (zt.at_ j 1), .int .i64 (zt.at_ j 2), .int .i64 (zt.at_ j 3), .int .i64 (zt.at_ j 4), .int .i64 (zt.at_ j 5)] w' (ValNew (msgV (fun f => zt.at_ j (f + 1))) w')) := fun w' => makeMessage_any (fun f => zt.at_ j (f + 1)) w'
    have HX : Hid (∀ w', Below wr.heap.size wr w' → Calls Try.prog 9 #[.pointer (some ⟨ab, 0, none⟩), .int .i64 s, .int .i64 (T j : Int), msgV (fun f => zt.at_ j (f + 1))] w' (AirKeep wr.heap.size w.heap.size ab (max (nAt q T j) (T j + 1)) (p + j + 1) (trC (chAt q p zc.at_ s T j) (nAt q T j) (p + j) s (T j)) (trM (logAt p zs.at_ (fun j f => zt.at_ j (f + 1))) (p + j) (fun f => zt.at_ j (f + 1))) w')) := fun w' h => zzTransmit_any _ ab _ _ _ _ _ s _ wr w' hcnj (by omega) hTl A4.out h
    go_wp2_with fail
    obtain ⟨y0, hy0⟩ : ∃ y0, y0 = wr.alloc (.cells #[.int .i64 (T j : Int), .int .i64 (zt.at_ j 1), .int .i64 (zt.at_ j 2), .int .i64 (zt.at_ j 3), .int .i64 (zt.at_ j 4), .int .i64 (zt.at_ j 5)] 27) := ⟨_, rfl⟩
    have hyb : Below wr.heap.size wr y0 := hy0 ▸ (Below.refl _ _).alloc (Nat.le_refl _) _
    have hys : y0.heap.size = wr.heap.size + 1 := by rw [hy0]; simp
    have hyk : ∀ f v, #[Value.int .i64 (T j : Int), .int .i64 (zt.at_ j 1), .int .i64 (zt.at_ j 2), .int .i64 (zt.at_ j 3), .int .i64 (zt.at_ j 4), .int .i64 (zt.at_ j 5)][f]? = some v → y0.cell? ⟨wr.heap.size, f, none⟩ = some v := fun f v hv => by rw [hy0, World.cell?_alloc_at _ _ _ _ rfl]; exact hv
    rw [← hy0]
    clear hy0
    have HK : Hid (∀ w' : World, w'.heap[wr.heap.size]? = y0.heap[wr.heap.size]? → w'.cell? ⟨wr.heap.size, 0, none⟩ = some (.int .i64 (T j : Int)) ∧ w'.cell? ⟨wr.heap.size, 1, none⟩ = some (.int .i64 (zt.at_ j 1)) ∧ w'.cell? ⟨wr.heap.size, 2, none⟩ = some (.int .i64 (zt.at_ j 2)) ∧ w'.cell? ⟨wr.heap.size, 3, none⟩ = some (.int .i64 (zt.at_ j 3)) ∧ w'.cell? ⟨wr.heap.size, 4, none⟩ = some (.int .i64 (zt.at_ j 4)) ∧ w'.cell? ⟨wr.heap.size, 5, none⟩ = some (.int .i64 (zt.at_ j 5))) := fun w' h => by
      have e : ∀ f, w'.cell? ⟨wr.heap.size, f, none⟩ = y0.cell? ⟨wr.heap.size, f, none⟩ := fun f => World.cell?_of_block (a := ⟨wr.heap.size, f, none⟩) h
      exact ⟨(e 0).trans (hyk 0 _ rfl), (e 1).trans (hyk 1 _ rfl), (e 2).trans (hyk 2 _ rfl), (e 3).trans (hyk 3 _ rfl), (e 4).trans (hyk 4 _ rfl), (e 5).trans (hyk 5 _ rfl)⟩
    have HYB := (show Hid _ from hyb)
    clear hyk hyb d0 d1 d2 d3 d4 d5
    go_region_held3 (fun w' => w'.cell? ⟨wr.heap.size, 0, none⟩ = some (.int .i64 (T j : Int)) ∧ w'.cell? ⟨wr.heap.size, 1, none⟩ = some (.int .i64 (zt.at_ j 1)) ∧ w'.cell? ⟨wr.heap.size, 2, none⟩ = some (.int .i64 (zt.at_ j 2)) ∧ w'.cell? ⟨wr.heap.size, 3, none⟩ = some (.int .i64 (zt.at_ j 3)) ∧ w'.cell? ⟨wr.heap.size, 4, none⟩ = some (.int .i64 (zt.at_ j 4)) ∧ w'.cell? ⟨wr.heap.size, 5, none⟩ = some (.int .i64 (zt.at_ j 5)))
      (first | exact HK.out _ rfl | exact HK.out _ hz1.out | exact HK.out _ hz2.out)
      (first
        | (go_at_call 8; go_must (refine (HM.out _).mono ?_); rintro e x1 ⟨rfl, hx1⟩; have hz1 : Hid (x1.heap[wr.heap.size]? = y0.heap[wr.heap.size]?) := hx1.block _ (by show _ < y0.heap.size; omega); have hy1 : Hid (Below wr.heap.size wr x1) := HYB.out.drew.trans (Below.mono (B := y0.heap.size) hx1 (by omega)); have hq1 : wr.heap.size < x1.heap.size := (by have := hx1.size; have : y0.heap.size ≤ x1.heap.size := hx1.size; omega); clear hx1)
        | (go_at_call 9; go_must (refine (HX.out _ hy1.out).mono ?_); rintro e x2 ⟨⟨vv, rfl, ha2, hx2⟩, hk2⟩; have hz2 : Hid (x2.heap[wr.heap.size]? = y0.heap[wr.heap.size]?) := (hk2 _ (Nat.le_refl _) hq1).trans hz1.out; have HA2 := (show Hid _ from ha2); have HX2 := (show Hid _ from hx2); clear ha2 hx2 hk2))
    all_goals
      go_wp2
      go_roundw
      case rel =>
        refine ⟨j + 1, by omega, by go_num, Air.eq HA2.out rfl (by omega) (fun i _ f hf => trC_step q p zc.at_ s T j i f hf) (fun i hi f _ => trM_step p zs.at_ (fun j f => zt.at_ j (f + 1)) j i f (by omega)), (B4.out.trans (hy1.out.mono B4.out.size)).trans HX2.out⟩
      case measure => simp [intOf]; omega
  obtain rfl : j = k := by omega
  clear hlt
  obtain ⟨wz, rfl⟩ : ∃ wz, wz = wr := ⟨_, rfl⟩
  have HTZ : Hid (∀ a, a < j → wz.cell? ⟨zt.b, zt.o + a * 6, none⟩ = some (.int .i64 (T a : Int)) ∧ T a ≤ 65536) := fun a ha => by
    have := (HT.out.later B4.out).cell a ha 0 (by omega)
    rw [Nat.add_zero, ← (HTT.out a ha).1] at this
    exact ⟨this, (HTT.out a ha).2⟩
  have HTA : Hid (0 < j → ta = some ⟨zt.b, zt.o, none⟩) := fun h => HT.out.addr h
  go_wp2_with fail
  go_loop [16, 17] (fun nv i => ∃ (a : Nat), a ≤ j ∧ i = .int .i64 a ∧ nv = .int .i64 (nAt q T a : Nat)) (fun _ i => j - (intOf i).toNat)
  case atStart => exact ⟨0, Nat.zero_le _, rfl, rfl⟩
  case round =>
  obtain ⟨a, ha, rfl, rfl⟩ := hrel
  by_cases hlt : a < j
  · obtain rfl := HTA.out (by omega)
    have hlt' : (a : Int) < (j : Int) := by omega
    obtain ⟨d0, hT0⟩ := HTZ.out a hlt
    by_cases hx : nAt q T a < T a + 1
    · have hx' : ((nAt q T a : Nat) : Int) < (T a : Int) + 1 := by omega
      go_wp2
      go_round
      case rel => exact ⟨a + 1, by omega, by go_num, by rw [show nAt q T (a + 1) = T a + 1 by simp only [nAt]; omega]; go_num⟩
      case measure => simp [intOf]; omega
    · have hx' : ¬ ((nAt q T a : Nat) : Int) < (T a : Int) + 1 := by omega
      go_wp2
      go_round
      case rel => exact ⟨a + 1, by omega, by go_num, by rw [show nAt q T (a + 1) = nAt q T a by simp only [nAt]; omega]⟩
      case measure => simp [intOf]; omega
  obtain rfl : a = j := by omega
  clear hlt
  have hNle : nAt q T a ≤ 65537 := nAt_le q T 65537 (by omega) a (fun i hi => by have := (HTT.out i hi).2; omega)
  have HNT : Hid (∀ i, i < a → T i < nAt q T a) := fun i hi => nAt_gt q T a i hi
  obtain ⟨N, hN⟩ : ∃ N, N = nAt q T a := ⟨_, rfl⟩
  have A5 : Hid (Air w.heap.size wz ab N (p + a) (chAt q p zc.at_ s T a) (logAt p zs.at_ (fun j f => zt.at_ j (f + 1)))) := by rw [hN]; exact A4.out
  have HNQ : Hid (q ≤ N) := by rw [hN]; exact nAt_ge q T a
  rw [← hN] at hNle HNT ⊢
  clear hN A4
  obtain ⟨i3, hj3, hz0, hz1, hz2⟩ := info_parts Try.info3
  go_wp2_with (first
    | (at_make; have gate := hgA; clear gate; go_must (refine wpList_make_full _ rfl _ _ 40 rfl wz.heap.size 3 i3 _ 1 Try.underlying40 hj3 hz0 hz1 _ _ _ _ N rfl rfl rfl rfl (by rw [hz2]; omega) (by unfold maxLen; omega) hgA.size ?_); intro wB hownB hgB)
    | (at_make; go_must (refine wpList_make_full _ rfl _ _ 40 rfl wz.heap.size 3 i3 _ 1 Try.underlying40 hj3 hz0 hz1 _ _ _ _ N rfl rfl rfl rfl (by rw [hz2]; omega) (by unfold maxLen; omega) (Nat.le_refl _) ?_); intro wA hownA hgA))
  have hgAs : wz.heap.size < wA.heap.size := (hownA.lt _ rfl).2
  have R0 : Hid (Rows2 wz.heap.size wz wB wz.heap.size wA.heap.size N T 0) :=
    ⟨(RowI.made (w := wA) (z := #[.int .i64 0]) hownA rfl (by simp)).kept hgB (by simp), RowI.made (z := #[.int .i64 0]) hownB rfl (by simp), by omega, ((Below.refl _ wz).grown hgA (Nat.le_refl _) (fun _ h => by cases h)).grown hgB (by omega) (fun _ h => by cases h)⟩
  clear hownA hgA hownB hgB hz0 hz1 hz2 hj3
  obtain ⟨g1, hg1⟩ : ∃ g1, g1 = wz.heap.size := ⟨_, rfl⟩
  generalize wA.heap.size = g2 at *
  go_loopw [20] (fun i wv => ∃ (c : Nat), c ≤ a ∧ i = .int .i64 c ∧ Rows2 wz.heap.size wz wv wz.heap.size g2 N T c) (fun i _ => a - (intOf i).toNat)
  case atStart => exact ⟨0, Nat.zero_le _, rfl, R0.out⟩
  case round =>
  obtain ⟨c, hc, rfl, hR⟩ := hrel
  clear R0
  by_cases hlt : c < a
  · obtain rfl := HTA.out (by omega)
    have hlt' : (c : Int) < (a : Int) := by omega
    obtain ⟨d0', hT0⟩ := HTZ.out c hlt
    have d0 : wr.cell? ⟨zt.b, zt.o + c * 6, none⟩ = some (.int .i64 (T c : Int)) := (hR.bel.cell (p := ⟨zt.b, zt.o + c * 6, none⟩) (World.block_lt_of_cell? _ _ d0')).trans d0'
    have hTN := HNT.out c hlt
    have hTN' : (T c : Int) < (N : Int) := by omega
    have e1 := row1_cell hR.cnt hTN
    have f1 := hR.cnt.frozen (T c)
    have hcb : ((cntT T (T c) c : Nat) : Int) ≤ 8192 := by have := cnt_le T (T c) c; omega
    obtain ⟨st0, st1⟩ := hR.step hTN
    clear hR d0'
    by_cases h0 : cntT T (T c) c = 0
    · have hq0 : (((cntT T (T c) c : Nat) : Int) == 0) = true := by rw [h0]; rfl
      obtain ⟨vv, e2, f2, e3, f3, hR2⟩ := st0 h0
      have HR2 := (show Hid _ from hR2)
      clear st0 st1 hR2 h0
      go_wp2
      go_roundw
      case rel => exact ⟨c + 1, by omega, by go_num, HR2.out⟩
      case measure => simp [intOf]; omega
    · have hq0 : (((cntT T (T c) c : Nat) : Int) == 0) = false := by rw [beq_eq_false_iff_ne]; omega
      have hR2 := st1 h0
      have HR2 := (show Hid _ from hR2)
      clear st0 st1 hR2 h0
      go_wp2
      go_roundw
      case rel => exact ⟨c + 1, by omega, by go_num, HR2.out⟩
      case measure => simp [intOf]; omega
  obtain rfl : c = a := by omega
  clear hlt
  obtain ⟨wy, rfl⟩ : ∃ wy, wy = wr := ⟨_, rfl⟩
  have A6 : Hid (Air w.heap.size wy ab N (p + c) (chAt q p zc.at_ s T c) (logAt p zs.at_ (fun j f => zt.at_ j (f + 1)))) := Air.later A5.out hR.bel
  have BY : Hid (Below w.heap.size w wy) := B4.out.trans (hR.bel.mono B4.out.size)
  have R6 := (show Hid _ from hR)
  have HL : Hid (Calls Try.prog 10 #[.pointer (some ⟨ab, 0, none⟩)] wy (ValNew (.tuple #[.int .i64 N, .int .i64 ((p : Int) + (c : Int))]) wy)) := by
    have := airLens_any _ ab N (p + c) _ _ wy A6.out
    rwa [Int.natCast_add] at this
  clear hR A5 B4
  go_wp2_with fail
  refine HL.out.mono ?_
  rintro e x1 ⟨rfl, hx1⟩
  have HX1 := (show Hid _ from hx1)
  clear hx1 HL
  go_wp2_with fail
  go_loopw [24] (fun i wv => ∃ (d : Nat), d ≤ N ∧ i = .int .i64 d ∧ Below wy.heap.size wy wv) (fun i _ => N - (intOf i).toNat)
  case atStart => exact ⟨0, Nat.zero_le _, rfl, HX1.out⟩
  case round =>
  obtain ⟨d, hdN, rfl, hb7⟩ := hrel
  have B7 := (show Hid _ from hb7)
  clear HX1 hb7
  by_cases hlt : d < N
  · have hlt' : (d : Int) < (N : Int) := by omega
    have e1 := row1_cell (Rows2.later R6.out B7.out).cnt hlt
    have e2 := row1_cell (Rows2.later R6.out B7.out).fst hlt
    have hfb : ((fstT T d c : Nat) : Int) ≤ 8192 := by have := fst_le T d c; omega
    have HCh : Hid (Calls Try.prog 11 #[.pointer (some ⟨ab, 0, none⟩), .int .i64 d] wr (ValNew (.tuple #[.int .i64 (chAt q p zc.at_ s T c d 0), .int .i64 (chAt q p zc.at_ s T c d 1)]) wr)) := airChannel_any _ ab N _ d _ _ wr hlt (Air.later A6.out B7.out)
    by_cases hd : d < q
    · obtain rfl := HC.out.addr (by omega)
      have hd' : (d : Int) < (q : Int) := by omega
      have z0 := (HC.out.later (BY.out.trans (B7.out.mono BY.out.size))).cell d hd 0 (by omega)
      have z1 := (HC.out.later (BY.out.trans (B7.out.mono BY.out.size))).cell d hd 1 (by omega)
      rw [Nat.add_zero] at z0
      by_cases h0 : cntT T d c = 0
      · have hp0 : ¬ (0 : Int) < ((cntT T d c : Nat) : Int) := by omega
        have v0 : chAt q p zc.at_ s T c d 0 = zc.at_ d 0 := (if_pos h0).trans (if_pos hd)
        have v1 : chAt q p zc.at_ s T c d 1 = zc.at_ d 1 := (if_pos h0).trans (if_pos hd)
        rw [v0, v1] at HCh
        clear v0 v1 h0
        go_wp2_with fail
        refine HCh.out.mono ?_
        rintro e x2 ⟨rfl, hx2⟩
        have HX2 := (show Hid _ from hx2)
        clear hx2 HCh
        go_wp2
        go_roundw
        case rel => exact ⟨d + 1, by omega, by go_num, B7.out.trans (HX2.out.mono B7.out.size)⟩
        case measure => simp [intOf]; omega
      by_cases h1c : cntT T d c = 1
      · by_cases ho : zc.at_ d 0 ≠ s
        · have hp0 : (0 : Int) < ((cntT T d c : Nat) : Int) := by omega
          have v0 : chAt q p zc.at_ s T c d 0 = s := (if_neg h0).trans (if_pos rfl)
          have ve : ext q zc.at_ d 0 = zc.at_ d 0 := if_pos hd
          have hq1 : (((cntT T d c : Nat) : Int) == 1) = true := by rw [h1c]; rfl
          have hq2 : (zc.at_ d 0 == s) = false := by rw [beq_eq_false_iff_ne]; exact ho
          have hq3 : (zc.at_ d 0 != s) = true := by rw [bne, hq2]; rfl
          have v1 : chAt q p zc.at_ s T c d 1 = (p : Int) + ((fstT T d c : Nat) : Int) := ((if_neg h0).trans (if_neg (by omega))).trans ((if_pos ⟨h1c, by rw [ve]; exact ho⟩).trans (by omega))
          clear ve
          rw [v0, v1] at HCh
          clear v0 v1 h0 h1c ho
          go_wp2_with fail
          refine HCh.out.mono ?_
          rintro e x2 ⟨rfl, hx2⟩
          have HX2 := (show Hid _ from hx2)
          clear hx2 HCh
          go_wp2
          go_roundw
          case rel => exact ⟨d + 1, by omega, by go_num, B7.out.trans (HX2.out.mono B7.out.size)⟩
          case measure => simp [intOf]; omega
        · have hp0 : (0 : Int) < ((cntT T d c : Nat) : Int) := by omega
          have v0 : chAt q p zc.at_ s T c d 0 = s := (if_neg h0).trans (if_pos rfl)
          have ve : ext q zc.at_ d 0 = zc.at_ d 0 := if_pos hd
          have hq1 : (((cntT T d c : Nat) : Int) == 1) = true := by rw [h1c]; rfl
          have hq2 : (zc.at_ d 0 == s) = true := by rw [beq_iff_eq]; exact Classical.not_not.1 ho
          have hq3 : (zc.at_ d 0 != s) = false := by rw [bne, hq2]; rfl
          have v1 : chAt q p zc.at_ s T c d 1 = -1 := ((if_neg h0).trans (if_neg (by omega))).trans (if_neg (fun h => h.2 (by rw [ve]; exact Classical.not_not.1 ho)))
          clear ve
          rw [v0, v1] at HCh
          clear v0 v1 h0 h1c ho
          go_wp2_with fail
          refine HCh.out.mono ?_
          rintro e x2 ⟨rfl, hx2⟩
          have HX2 := (show Hid _ from hx2)
          clear hx2 HCh
          go_wp2
          go_roundw
          case rel => exact ⟨d + 1, by omega, by go_num, B7.out.trans (HX2.out.mono B7.out.size)⟩
          case measure => simp [intOf]; omega
      · have hp0 : (0 : Int) < ((cntT T d c : Nat) : Int) := by omega
        have v0 : chAt q p zc.at_ s T c d 0 = s := (if_neg h0).trans (if_pos rfl)
        have ve : ext q zc.at_ d 0 = zc.at_ d 0 := if_pos hd
        have hq1 : (((cntT T d c : Nat) : Int) == 1) = false := by rw [beq_eq_false_iff_ne]; omega
        have v1 : chAt q p zc.at_ s T c d 1 = -1 := ((if_neg h0).trans (if_neg (by omega))).trans (if_neg (fun h => h1c h.1))
        clear ve
        rw [v0, v1] at HCh
        clear v0 v1 h0 h1c
        go_wp2_with fail
        refine HCh.out.mono ?_
        rintro e x2 ⟨rfl, hx2⟩
        have HX2 := (show Hid _ from hx2)
        clear hx2 HCh
        go_wp2
        go_roundw
        case rel => exact ⟨d + 1, by omega, by go_num, B7.out.trans (HX2.out.mono B7.out.size)⟩
        case measure => simp [intOf]; omega
    · have hd' : ¬ (d : Int) < (q : Int) := by omega
      by_cases h0 : cntT T d c = 0
      · have hp0 : ¬ (0 : Int) < ((cntT T d c : Nat) : Int) := by omega
        have v0 : chAt q p zc.at_ s T c d 0 = (0 : Int) := (if_pos h0).trans (if_neg hd)
        have v1 : chAt q p zc.at_ s T c d 1 = (0 : Int) := (if_pos h0).trans (if_neg hd)
        rw [v0, v1] at HCh
        clear v0 v1 h0
        go_wp2_with fail
        refine HCh.out.mono ?_
        rintro e x2 ⟨rfl, hx2⟩
        have HX2 := (show Hid _ from hx2)
        clear hx2 HCh
        go_wp2
        go_roundw
        case rel => exact ⟨d + 1, by omega, by go_num, B7.out.trans (HX2.out.mono B7.out.size)⟩
        case measure => simp [intOf]; omega
      by_cases h1c : cntT T d c = 1
      · by_cases ho : (0 : Int) ≠ s
        · have hp0 : (0 : Int) < ((cntT T d c : Nat) : Int) := by omega
          have v0 : chAt q p zc.at_ s T c d 0 = s := (if_neg h0).trans (if_pos rfl)
          have ve : ext q zc.at_ d 0 = (0 : Int) := if_neg hd
          have hq1 : (((cntT T d c : Nat) : Int) == 1) = true := by rw [h1c]; rfl
          have hq2 : ((0 : Int) == s) = false := by rw [beq_eq_false_iff_ne]; exact ho
          have hq3 : ((0 : Int) != s) = true := by rw [bne, hq2]; rfl
          have v1 : chAt q p zc.at_ s T c d 1 = (p : Int) + ((fstT T d c : Nat) : Int) := ((if_neg h0).trans (if_neg (by omega))).trans ((if_pos ⟨h1c, by rw [ve]; exact ho⟩).trans (by omega))
          clear ve
          rw [v0, v1] at HCh
          clear v0 v1 h0 h1c ho
          go_wp2_with fail
          refine HCh.out.mono ?_
          rintro e x2 ⟨rfl, hx2⟩
          have HX2 := (show Hid _ from hx2)
          clear hx2 HCh
          go_wp2
          go_roundw
          case rel => exact ⟨d + 1, by omega, by go_num, B7.out.trans (HX2.out.mono B7.out.size)⟩
          case measure => simp [intOf]; omega
        · have hp0 : (0 : Int) < ((cntT T d c : Nat) : Int) := by omega
          have v0 : chAt q p zc.at_ s T c d 0 = s := (if_neg h0).trans (if_pos rfl)
          have ve : ext q zc.at_ d 0 = (0 : Int) := if_neg hd
          have hq1 : (((cntT T d c : Nat) : Int) == 1) = true := by rw [h1c]; rfl
          have hq2 : ((0 : Int) == s) = true := by rw [beq_iff_eq]; exact Classical.not_not.1 ho
          have hq3 : ((0 : Int) != s) = false := by rw [bne, hq2]; rfl
          have v1 : chAt q p zc.at_ s T c d 1 = -1 := ((if_neg h0).trans (if_neg (by omega))).trans (if_neg (fun h => h.2 (by rw [ve]; exact Classical.not_not.1 ho)))
          clear ve
          rw [v0, v1] at HCh
          clear v0 v1 h0 h1c ho
          go_wp2_with fail
          refine HCh.out.mono ?_
          rintro e x2 ⟨rfl, hx2⟩
          have HX2 := (show Hid _ from hx2)
          clear hx2 HCh
          go_wp2
          go_roundw
          case rel => exact ⟨d + 1, by omega, by go_num, B7.out.trans (HX2.out.mono B7.out.size)⟩
          case measure => simp [intOf]; omega
      · have hp0 : (0 : Int) < ((cntT T d c : Nat) : Int) := by omega
        have v0 : chAt q p zc.at_ s T c d 0 = s := (if_neg h0).trans (if_pos rfl)
        have ve : ext q zc.at_ d 0 = (0 : Int) := if_neg hd
        have hq1 : (((cntT T d c : Nat) : Int) == 1) = false := by rw [beq_eq_false_iff_ne]; omega
        have v1 : chAt q p zc.at_ s T c d 1 = -1 := ((if_neg h0).trans (if_neg (by omega))).trans (if_neg (fun h => h1c h.1))
        clear ve
        rw [v0, v1] at HCh
        clear v0 v1 h0 h1c
        go_wp2_with fail
        refine HCh.out.mono ?_
        rintro e x2 ⟨rfl, hx2⟩
        have HX2 := (show Hid _ from hx2)
        clear hx2 HCh
        go_wp2
        go_roundw
        case rel => exact ⟨d + 1, by omega, by go_num, B7.out.trans (HX2.out.mono B7.out.size)⟩
        case measure => simp [intOf]; omega
  obtain rfl : d = N := by omega
  clear hlt
  go_wp2_with fail
  go_loopw [31] (fun i wv => ∃ (u : Nat), u ≤ p ∧ i = .int .i64 u ∧ Below wy.heap.size wy wv) (fun i _ => p - (intOf i).toNat)
  case atStart => exact ⟨0, Nat.zero_le _, rfl, B7.out⟩
  case round =>
  obtain ⟨u, hu, rfl, hb8⟩ := hrel
  have B8 := (show Hid _ from hb8)
  clear B7 hb8
  by_cases hlt : u < p
  · obtain rfl := HS.out.addr (by omega)
    have hlt' : (u : Int) < (p : Int) := by omega
    have hst := HS.out.later (BY.out.trans (B8.out.mono BY.out.size))
    have d0 := hst.cell u hlt 0 (by omega)
    have d1 := hst.cell u hlt 1 (by omega)
    have d2 := hst.cell u hlt 2 (by omega)
    have d3 := hst.cell u hlt 3 (by omega)
    have d4 := hst.cell u hlt 4 (by omega)
    rw [Nat.add_zero] at d0
    clear hst
    have HA13 : Hid (∀ w', Below wr.heap.size wr w' → Calls Try.prog 13 #[.pointer (some ⟨ab, 0, none⟩), .int .i64 u] w' (ValNew (msgV (zs.at_ u)) w')) := fun w' h => by
      have := airSent_any _ ab d (p + c) u _ _ w' (by omega) (Air.later A6.out (B8.out.trans (h.mono B8.out.size)))
      rwa [show logAt p zs.at_ (fun j f => zt.at_ j (f + 1)) u = zs.at_ u from funext fun f => if_pos hlt] at this
    have HA12 : Hid (∀ w', Calls Try.prog 12 #[msgV (zs.at_ u), .int .i64 (zs.at_ u 0), .int .i64 (zs.at_ u 1), .int .i64 (zs.at_ u 2), .int .i64 (zs.at_ u 3), .int .i64 (zs.at_ u 4)] w' (ValNew (.bool true) w')) := fun w' => msgIs_any (zs.at_ u) w'
    go_wp2_with fail
    obtain ⟨y0, hy0⟩ : ∃ y0, y0 = wr.alloc (.cells #[.int .i64 (zs.at_ u 0), .int .i64 (zs.at_ u 1), .int .i64 (zs.at_ u 2), .int .i64 (zs.at_ u 3), .int .i64 (zs.at_ u 4)] 34) := ⟨_, rfl⟩
    have hyb : Below wr.heap.size wr y0 := hy0 ▸ (Below.refl _ _).alloc (Nat.le_refl _) _
    have hys : y0.heap.size = wr.heap.size + 1 := by rw [hy0]; simp
    have hyk : ∀ f v, #[Value.int .i64 (zs.at_ u 0), .int .i64 (zs.at_ u 1), .int .i64 (zs.at_ u 2), .int .i64 (zs.at_ u 3), .int .i64 (zs.at_ u 4)][f]? = some v → y0.cell? ⟨wr.heap.size, f, none⟩ = some v := fun f v hv => by rw [hy0, World.cell?_alloc_at _ _ _ _ rfl]; exact hv
    rw [← hy0]
    clear hy0
    have HK : Hid (∀ w' : World, w'.heap[wr.heap.size]? = y0.heap[wr.heap.size]? → w'.cell? ⟨wr.heap.size, 0, none⟩ = some (.int .i64 (zs.at_ u 0)) ∧ w'.cell? ⟨wr.heap.size, 1, none⟩ = some (.int .i64 (zs.at_ u 1)) ∧ w'.cell? ⟨wr.heap.size, 2, none⟩ = some (.int .i64 (zs.at_ u 2)) ∧ w'.cell? ⟨wr.heap.size, 3, none⟩ = some (.int .i64 (zs.at_ u 3)) ∧ w'.cell? ⟨wr.heap.size, 4, none⟩ = some (.int .i64 (zs.at_ u 4))) := fun w' h => by
      have e : ∀ f, w'.cell? ⟨wr.heap.size, f, none⟩ = y0.cell? ⟨wr.heap.size, f, none⟩ := fun f => World.cell?_of_block (a := ⟨wr.heap.size, f, none⟩) h
      exact ⟨(e 0).trans (hyk 0 _ rfl), (e 1).trans (hyk 1 _ rfl), (e 2).trans (hyk 2 _ rfl), (e 3).trans (hyk 3 _ rfl), (e 4).trans (hyk 4 _ rfl)⟩
    have HYB := (show Hid _ from hyb)
    clear hyk hyb d0 d1 d2 d3 d4
    go_region_held3 (fun w' => w'.cell? ⟨wr.heap.size, 0, none⟩ = some (.int .i64 (zs.at_ u 0)) ∧ w'.cell? ⟨wr.heap.size, 1, none⟩ = some (.int .i64 (zs.at_ u 1)) ∧ w'.cell? ⟨wr.heap.size, 2, none⟩ = some (.int .i64 (zs.at_ u 2)) ∧ w'.cell? ⟨wr.heap.size, 3, none⟩ = some (.int .i64 (zs.at_ u 3)) ∧ w'.cell? ⟨wr.heap.size, 4, none⟩ = some (.int .i64 (zs.at_ u 4)))
      (first | exact HK.out _ rfl | exact HK.out _ hz1.out | exact HK.out _ hz2.out)
      (first
        | (go_at_call 13; go_must (refine (HA13.out _ (by exact HYB.out.drew)).mono ?_); rintro e x1 ⟨rfl, hx1⟩; have hz1 : Hid (x1.heap[wr.heap.size]? = y0.heap[wr.heap.size]?) := hx1.block _ (by show _ < y0.heap.size; omega); have hy1 : Hid (Below wr.heap.size wr x1) := HYB.out.drew.trans (Below.mono (B := y0.heap.size) hx1 (by omega)); have hq1 : wr.heap.size < x1.heap.size := (by have : y0.heap.size ≤ x1.heap.size := hx1.size; omega); clear hx1)
        | (go_at_call 12; go_must (refine (HA12.out _).mono ?_); rintro e x2 ⟨rfl, hx2⟩; have hz2 : Hid (x2.heap[wr.heap.size]? = y0.heap[wr.heap.size]?) := (hx2.block _ hq1).trans hz1.out; have hy2 : Hid (Below wr.heap.size wr x2) := hy1.out.trans (hx2.mono hy1.out.size); clear hx2))
    all_goals
      go_wp2
      go_roundw
      case rel => exact ⟨u + 1, by omega, by go_num, B8.out.trans (hy2.out.mono B8.out.size)⟩
      case measure => simp [intOf]; omega
  obtain rfl : u = p := by omega
  clear hlt
  go_wp2_with fail
  go_loopw [33] (fun i wv => ∃ (v : Nat), v ≤ c ∧ i = .int .i64 v ∧ Below wy.heap.size wy wv) (fun i _ => c - (intOf i).toNat)
  case atStart => exact ⟨0, Nat.zero_le _, rfl, B8.out⟩
  case round =>
  obtain ⟨v, hv, rfl, hb9⟩ := hrel
  have B9 := (show Hid _ from hb9)
  clear B8 hb9
  by_cases hlt : v < c
  · obtain rfl := HT.out.addr (by omega)
    have hlt' : (v : Int) < (c : Int) := by omega
    have hst := HT.out.later (BY.out.trans (B9.out.mono BY.out.size))
    have d0 := hst.cell v hlt 0 (by omega)
    have d1 := hst.cell v hlt 1 (by omega)
    have d2 := hst.cell v hlt 2 (by omega)
    have d3 := hst.cell v hlt 3 (by omega)
    have d4 := hst.cell v hlt 4 (by omega)
    have d5 := hst.cell v hlt 5 (by omega)
    rw [Nat.add_zero] at d0
    clear hst
    have HA13 : Hid (∀ w' (y : Int), y = (u : Int) + (v : Int) → Below wr.heap.size wr w' → Calls Try.prog 13 #[.pointer (some ⟨ab, 0, none⟩), .int .i64 y] w' (ValNew (msgV (fun f => zt.at_ v (f + 1))) w')) := fun w' y hy h => by
      have := airSent_any _ ab d (u + c) (u + v) _ _ w' (by omega) (Air.later A6.out (B9.out.trans (h.mono B9.out.size)))
      rw [show logAt u zs.at_ (fun j f => zt.at_ j (f + 1)) (u + v) = (fun f => zt.at_ v (f + 1)) from funext fun f => (if_neg (by omega)).trans (by rw [show u + v - u = v by omega])] at this
      rw [hy, ← Int.natCast_add]
      exact this
    have HA12 : Hid (∀ w', Calls Try.prog 12 #[msgV (fun f => zt.at_ v (f + 1)), .int .i64 (zt.at_ v 1), .int .i64 (zt.at_ v 2), .int .i64 (zt.at_ v 3), .int .i64 (zt.at_ v 4), .int .i64 (zt.at_ v 5)] w' (ValNew (.bool true) w')) := fun w' => msgIs_any (fun f => zt.at_ v (f + 1)) w'
    go_wp2_with fail
    obtain ⟨y0, hy0⟩ : ∃ y0, y0 = wr.alloc (.cells #[.int .i64 (zt.at_ v 0), .int .i64 (zt.at_ v 1), .int .i64 (zt.at_ v 2), .int .i64 (zt.at_ v 3), .int .i64 (zt.at_ v 4), .int .i64 (zt.at_ v 5)] 27) := ⟨_, rfl⟩
    have hyb : Below wr.heap.size wr y0 := hy0 ▸ (Below.refl _ _).alloc (Nat.le_refl _) _
    have hys : y0.heap.size = wr.heap.size + 1 := by rw [hy0]; simp
    have hyk : ∀ f v', #[Value.int .i64 (zt.at_ v 0), .int .i64 (zt.at_ v 1), .int .i64 (zt.at_ v 2), .int .i64 (zt.at_ v 3), .int .i64 (zt.at_ v 4), .int .i64 (zt.at_ v 5)][f]? = some v' → y0.cell? ⟨wr.heap.size, f, none⟩ = some v' := fun f v' hv => by rw [hy0, World.cell?_alloc_at _ _ _ _ rfl]; exact hv
    rw [← hy0]
    clear hy0
    have HK : Hid (∀ w' : World, w'.heap[wr.heap.size]? = y0.heap[wr.heap.size]? → w'.cell? ⟨wr.heap.size, 1, none⟩ = some (.int .i64 (zt.at_ v 1)) ∧ w'.cell? ⟨wr.heap.size, 2, none⟩ = some (.int .i64 (zt.at_ v 2)) ∧ w'.cell? ⟨wr.heap.size, 3, none⟩ = some (.int .i64 (zt.at_ v 3)) ∧ w'.cell? ⟨wr.heap.size, 4, none⟩ = some (.int .i64 (zt.at_ v 4)) ∧ w'.cell? ⟨wr.heap.size, 5, none⟩ = some (.int .i64 (zt.at_ v 5))) := fun w' h => by
      have e : ∀ f, w'.cell? ⟨wr.heap.size, f, none⟩ = y0.cell? ⟨wr.heap.size, f, none⟩ := fun f => World.cell?_of_block (a := ⟨wr.heap.size, f, none⟩) h
      exact ⟨(e 1).trans (hyk 1 _ rfl), (e 2).trans (hyk 2 _ rfl), (e 3).trans (hyk 3 _ rfl), (e 4).trans (hyk 4 _ rfl), (e 5).trans (hyk 5 _ rfl)⟩
    have HYB := (show Hid _ from hyb)
    clear hyk hyb d0 d1 d2 d3 d4 d5
    go_region_held3 (fun w' => w'.cell? ⟨wr.heap.size, 1, none⟩ = some (.int .i64 (zt.at_ v 1)) ∧ w'.cell? ⟨wr.heap.size, 2, none⟩ = some (.int .i64 (zt.at_ v 2)) ∧ w'.cell? ⟨wr.heap.size, 3, none⟩ = some (.int .i64 (zt.at_ v 3)) ∧ w'.cell? ⟨wr.heap.size, 4, none⟩ = some (.int .i64 (zt.at_ v 4)) ∧ w'.cell? ⟨wr.heap.size, 5, none⟩ = some (.int .i64 (zt.at_ v 5)))
      (first | exact HK.out _ rfl | exact HK.out _ hz1.out | exact HK.out _ hz2.out)
      (first
        | (go_at_call 13; go_must (refine (HA13.out _ _ (by first | rfl | exact wrap_id _ (by omega) (by omega)) (by exact HYB.out.drew)).mono ?_); rintro e x1 ⟨rfl, hx1⟩; have hz1 : Hid (x1.heap[wr.heap.size]? = y0.heap[wr.heap.size]?) := hx1.block _ (by show _ < y0.heap.size; omega); have hy1 : Hid (Below wr.heap.size wr x1) := HYB.out.drew.trans (Below.mono (B := y0.heap.size) hx1 (by omega)); have hq1 : wr.heap.size < x1.heap.size := (by have : y0.heap.size ≤ x1.heap.size := hx1.size; omega); clear hx1)
        | (go_at_call 12; go_must (refine (HA12.out _).mono ?_); rintro e x2 ⟨rfl, hx2⟩; have hz2 : Hid (x2.heap[wr.heap.size]? = y0.heap[wr.heap.size]?) := (hx2.block _ hq1).trans hz1.out; have hy2 : Hid (Below wr.heap.size wr x2) := hy1.out.trans (hx2.mono hy1.out.size); clear hx2))
    all_goals
      go_wp2
      go_roundw
      case rel => exact ⟨v + 1, by omega, by go_num, B9.out.trans (hy2.out.mono B9.out.size)⟩
      case measure => simp [intOf]; omega
  obtain rfl : v = c := by omega
  go_wp2
  go_ret
  exact ⟨rfl, BY.out.trans (B9.out.mono BY.out.size)⟩

end Go.Proofs.Qxb6623390a
