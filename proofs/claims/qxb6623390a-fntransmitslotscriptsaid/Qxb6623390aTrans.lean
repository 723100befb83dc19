/-
  Contracts of transmit (14) and ZZTransmit (9).
-/
import Derived.Test.Qxb6623390aSend
import Derived.Deep.RegionLaw
namespace Go.Proofs.Qxb6623390a
open Go.RowKit

/-- append by its run's equation, as one step of a region that draws. -/
theorem step_app {P : Program} {ops : Array Oper} {o : Oper} {a : Act} {w : World} {K : Act → World → Prop} {Q : Exit → Act → World → Prop} {E : Prop}
    (hg : o.guard = none) (s x : Operand) (t u : TypeId) (hop : o.op = Op.call { callee := Callee.builtin Builtin.append, args := #[s, x], argTypes := #[t, u] })
    (v1 v2 v' : Value) (w' : World) (hs : a.eval s = v1) (hx : a.eval x = v2) (hrun : (Builtin.append_ #[t, u] o.type #[v1, v2]).run P w = .ok v' w')
    (hK : K (a.put o.dst v') w') :
    if Region.wanted o (yielded ops a.tmps) = true then Oper.wp P o a w K Q else E := by
  have hw : Region.wanted o (yielded ops a.tmps) = true := by simp [Region.wanted, hg]
  rw [if_pos hw]
  unfold Oper.wp
  simp [execOp, hop, resolve, invoke, builtin, hs, hx, hrun, Result.andThen]
  exact hK

/-- The channels behind a transmission on ch in slot s, the log holding sn messages. -/
def trC (C : Nat → Nat → Int) (cn sn : Nat) (s : Int) (ch : Nat) : Nat → Nat → Int :=
  if ext cn C ch 0 = s then put2 (ext cn C) ch (ext cn C ch 0) (-1) else put2 (ext cn C) ch s sn
def trM (M : Nat → Nat → Int) (sn : Nat) (m : Nat → Int) : Nat → Nat → Int := fun i f => if i < sn then M i f else m f

theorem AirAt.eqC {B : Nat} {w : World} {ab gc cn cc gs sn sc : Nat} {C C' M : Nat → Nat → Int} (h : AirAt B w ab gc cn cc gs sn sc C M) (hC : ∀ i, i < cn → ∀ f, f < 2 → C i f = C' i f) : AirAt B w ab gc cn cc gs sn sc C' M :=
  ⟨h.blk, h.ch.eq hC, h.log, h.ne1, h.ne2, h.ne3, h.low⟩

theorem AirAt.drew {B : Nat} {w : World} {ab gc cn cc gs sn sc : Nat} {C M : Nat → Nat → Int} (h : AirAt B w ab gc cn cc gs sn sc C M) : AirAt B w.drew ab gc cn cc gs sn sc C M := h.later (Below.refl _ _).drew

/-- The air has turned so, and the blocks from N on stay. -/
def AirKeep (N B ab cn sn : Nat) (C M : Nat → Nat → Int) (w : World) (e : Ending) (w' : World) : Prop := AirNow B ab cn sn C M w e w' ∧ Keeps N w w'

theorem msg_new (w : World) (m : Nat → Int) : MsgAt (w.alloc (.cells #[.int .i64 (m 0), .int .i64 (m 1), .int .i64 (m 2), .int .i64 (m 3), .int .i64 (m 4)] 37)) w.heap.size m :=
  ⟨fun f hf => by
    rw [World.cell?_alloc_at _ _ _ _ rfl]
    rcases (by omega : f = 0 ∨ f = 1 ∨ f = 2 ∨ f = 3 ∨ f = 4) with rfl | rfl | rfl | rfl | rfl <;> rfl⟩

set_option maxRecDepth 100000 in
set_option maxHeartbeats 4000000 in
theorem transmit_any (B ab cn sn ch : Nat) (C M : Nat → Nat → Int) (s : Int) (m : Nat → Int) (w0 w : World) (_hcn : cn ≤ 65537) (hsn : sn ≤ 65536) (hch : ch ≤ 65536) (h : Air B w0 ab cn sn C M) (hb0 : Below w0.heap.size w0 w) :
    Calls Try.prog 14 #[.pointer (some ⟨ab, 0, none⟩), .int .i64 s, .int .i64 ch, msgV m] w (AirKeep w0.heap.size B ab (max cn (ch + 1)) (sn + 1) (trC C cn sn s ch) (trM M sn m) w) := by
  obtain ⟨gc, cc, gs, sc, h0⟩ := h
  have N1 := h0.lt
  have N2 := h0.ch.lt.2
  have N3 := h0.log.lt.2
  have hs0 := hb0.size
  have h := h0.later hb0
  clear h0 hb0
  have hlt := h.lt
  have hgc := h.ch.lt
  have hlow := h.low
  have b1 : Below w.heap.size w (w.alloc (.cells #[.int .i64 (m 0), .int .i64 (m 1), .int .i64 (m 2), .int .i64 (m 3), .int .i64 (m 4)] 37)) := (Below.refl _ _).alloc (Nat.le_refl _) _
  have h1 := h.later b1
  have hm1 := msg_new w m
  have hb1 : Below B w (w.alloc (.cells #[.int .i64 (m 0), .int .i64 (m 1), .int .i64 (m 2), .int .i64 (m 3), .int .i64 (m 4)] 37)) := b1.mono (by omega)
  unfold msgV
  by_cases hc : ch < cn
  · have hmax : max cn (ch + 1) = cn := by omega
    rw [hmax]
    have A3 := (show Hid _ from h1.eqC (C' := ext cn C) (fun i hi f _ => (if_pos hi).symm))
    have MS := (show Hid _ from hm1)
    have B3 := (show Hid _ from hb1)
    have KP : Hid (Keeps w0.heap.size w (w.alloc (.cells #[.int .i64 (m 0), .int .i64 (m 1), .int .i64 (m 2), .int .i64 (m 3), .int .i64 (m 4)] 37))) := Keeps.below b1 (Nat.le_refl _)
    have nm : w.heap.size ≠ gc := by omega
    have hidx := hc
    have hc' : ¬ ((cn : Int) ≤ (ch : Int)) := by omega
    have dw1 := h.ch.cell hc (f := 1) (by omega)
    have fw1 := h.ch.frozen (ch * 2 + 1)
    clear h h1 hm1 hb1 b1
    by_cases hE : ext cn C ch 0 = s
    · have hq : (ext cn C ch 0 == s) = true := by rw [beq_iff_eq]; exact hE
      have c0 := A3.out.cell0
      have c1 := A3.out.cell1
      have d0 := A3.out.ch.cell hidx (f := 0) (by omega)
      have d1 := A3.out.ch.cell hidx (f := 1) (by omega)
      have f0 := A3.out.ch.frozen (ch * 2)
      have f1 := A3.out.ch.frozen (ch * 2 + 1)
      rw [Nat.add_zero] at d0
      obtain ⟨w4, e4, hA4, hb4, hg4⟩ := A3.out.setOne hidx (-1)
      have m4 := MS.out.kept hg4 (by simpa using nm)
      obtain ⟨g5, k5, w5, happ, p1, p2, w6, e6, hA6, hb6, hk6⟩ := hA4.addLog hsn m N1 N3
      have q1 := hA4.cell1
      have hab4 : ab < w4.heap.size := hA4.lt
      have hmb4 : w.heap.size < w4.heap.size := m4.lt
      have t0 := m4.cell 0 (by omega)
      have t1 := m4.cell 1 (by omega)
      have t2 := m4.cell 2 (by omega)
      have t3 := m4.cell 3 (by omega)
      have t4 := m4.cell 4 (by omega)
      have HAPP := (show Hid _ from happ)
      clear happ
      have A6 : Hid (Air B w6 ab cn (sn + 1) (trC C cn sn s ch) (trM M sn m)) := by
        show Air _ _ _ _ _ _ _
        rw [show trC C cn sn s ch = _ from if_pos hE]
        exact ⟨_, _, _, _, hA6⟩
      have B6 : Hid (Below B w w6) := (B3.out.trans hb4).trans hb6
      have K6 : Hid (Keeps w0.heap.size w w6) := (KP.out.grown B3.out.size hg4 (.inl N2)).trans (Nat.le_trans B3.out.size hg4.size) hk6
      have E6 := (show Hid _ from e6)
      have E4 : Hid (w4 = (w.setCell ⟨gc, ch * 2 + 1, none⟩ (.int .i64 (-1))).alloc (.cells #[.int .i64 (m 0), .int .i64 (m 1), .int .i64 (m 2), .int .i64 (m 3), .int .i64 (m 4)] 37)) := e4.trans (World.setCell_alloc_past _ _ _ _ hgc.2)
      clear hA4 hb4 hg4 m4 hA6 hb6 e6 e4 hk6 KP
      go_enter Try.func14, Try.ntmps14
      go_wp2_with fail
      rw [← E4.out]
      clear E4 c0 c1 d0 d1 f0 f1 A3 MS B3
      go_region_law (refine step_app rfl _ _ _ _ rfl _ _ _ _ rfl rfl HAPP.out ?_)
      all_goals
        go_end0
        rw [← E6.out]
        exact ⟨⟨_, rfl, A6.out, B6.out⟩, K6.out⟩
    · have hq : (ext cn C ch 0 == s) = false := by rw [beq_eq_false_iff_ne]; exact hE
      have c0 := A3.out.cell0
      have c1 := A3.out.cell1
      have d0 := A3.out.ch.cell hidx (f := 0) (by omega)
      have d1 := A3.out.ch.cell hidx (f := 1) (by omega)
      have f0 := A3.out.ch.frozen (ch * 2)
      have f1 := A3.out.ch.frozen (ch * 2 + 1)
      rw [Nat.add_zero] at d0
      obtain ⟨w4, e4, hA4, hb4, hg4⟩ := A3.out.setTwo hidx s sn
      have m4 := MS.out.kept hg4 (by simpa using nm)
      obtain ⟨g5, k5, w5, happ, p1, p2, w6, e6, hA6, hb6, hk6⟩ := hA4.addLog hsn m N1 N3
      have q1 := hA4.cell1
      have hab4 : ab < w4.heap.size := hA4.lt
      have hmb4 : w.heap.size < w4.heap.size := m4.lt
      have t0 := m4.cell 0 (by omega)
      have t1 := m4.cell 1 (by omega)
      have t2 := m4.cell 2 (by omega)
      have t3 := m4.cell 3 (by omega)
      have t4 := m4.cell 4 (by omega)
      have HAPP := (show Hid _ from happ)
      clear happ
      have A6 : Hid (Air B w6 ab cn (sn + 1) (trC C cn sn s ch) (trM M sn m)) := by
        show Air _ _ _ _ _ _ _
        rw [show trC C cn sn s ch = _ from if_neg hE]
        exact ⟨_, _, _, _, hA6⟩
      have B6 : Hid (Below B w w6) := (B3.out.trans hb4).trans hb6
      have K6 : Hid (Keeps w0.heap.size w w6) := (KP.out.grown B3.out.size hg4 (.inl N2)).trans (Nat.le_trans B3.out.size hg4.size) hk6
      have E6 := (show Hid _ from e6)
      have E4 : Hid (w4 = ((w.setCell ⟨gc, ch * 2, none⟩ (.int .i64 s)).setCell ⟨gc, ch * 2 + 1, none⟩ (.int .i64 sn)).alloc (.cells #[.int .i64 (m 0), .int .i64 (m 1), .int .i64 (m 2), .int .i64 (m 3), .int .i64 (m 4)] 37)) := e4.trans ((congrArg (fun x => World.setCell x _ _) (World.setCell_alloc_past _ _ _ _ hgc.2)).trans (World.setCell_alloc_past _ _ _ _ (by simpa using hgc.2)))
      clear hA4 hb4 hg4 m4 hA6 hb6 e6 e4 hk6 KP
      go_enter Try.func14, Try.ntmps14
      go_wp2_with fail
      rw [← E4.out]
      clear E4 c0 c1 d0 d1 f0 f1 A3 MS B3
      go_region_law (refine step_app rfl _ _ _ _ rfl _ _ _ _ rfl rfl HAPP.out ?_)
      all_goals
        go_end0
        rw [← E6.out]
        exact ⟨⟨_, rfl, A6.out, B6.out⟩, K6.out⟩
  · have hmax : max cn (ch + 1) = ch + 1 := by omega
    rw [hmax]
    have hc' : (cn : Int) ≤ (ch : Int) := by omega
    obtain ⟨g3, k3, w2, hr, p10, p20, w3, e3, hA3, hm3, nm, hb3, hk3, hg3⟩ := h1.growCh (ch := ch) (by omega) hch hm1 (by omega) (by omega) N1 N2
    have A3 := (show Hid _ from hA3)
    have MS := (show Hid _ from hm3)
    have B3 : Hid (Below B w w3) := hb1.trans hb3
    have KP : Hid (Keeps w0.heap.size w w3) := (Keeps.below b1 (Nat.le_refl _)).trans b1.size hk3
    have b1s := b1.size
    have HAPP0 := (show Hid _ from hr)
    have E3 := (show Hid _ from e3)
    have cw0 := h1.cell0
    have hidx : ch < ch + 1 := by omega
    have hidx' : (ch : Int) < ((ch + 1 : Nat) : Int) := by omega
    clear h h1 hm1 hb1 b1 hr e3 hA3 hm3 hb3 hk3
    go_enter Try.func14, Try.ntmps14
    go_wp2_with fail
    go_region_law (refine step_app rfl _ _ _ _ rfl _ _ _ _ rfl rfl HAPP0.out ?_)
    all_goals
      rw [← E3.out]
      clear E3 HAPP0 cw0 p10 p20
      by_cases hE : ext cn C ch 0 = s
      · have hq : (ext cn C ch 0 == s) = true := by rw [beq_iff_eq]; exact hE
        have c0 := A3.out.cell0
        have c1 := A3.out.cell1
        have d0 := A3.out.ch.cell hidx (f := 0) (by omega)
        have d1 := A3.out.ch.cell hidx (f := 1) (by omega)
        have f0 := A3.out.ch.frozen (ch * 2)
        have f1 := A3.out.ch.frozen (ch * 2 + 1)
        rw [Nat.add_zero] at d0
        obtain ⟨w4, e4, hA4, hb4, hg4⟩ := A3.out.setOne hidx (-1)
        have m4 := MS.out.kept hg4 (by simpa using nm)
        obtain ⟨g5, k5, w5, happ, p1, p2, w6, e6, hA6, hb6, hk6⟩ := hA4.addLog hsn m N1 N3
        have q1 := hA4.cell1
        have hab4 : ab < w4.heap.size := hA4.lt
        have hmb4 : w.heap.size < w4.heap.size := m4.lt
        have t0 := m4.cell 0 (by omega)
        have t1 := m4.cell 1 (by omega)
        have t2 := m4.cell 2 (by omega)
        have t3 := m4.cell 3 (by omega)
        have t4 := m4.cell 4 (by omega)
        have HAPP := (show Hid _ from happ)
        clear happ
        have A6 : Hid (Air B w6 ab (ch + 1) (sn + 1) (trC C cn sn s ch) (trM M sn m)) := by
          show Air _ _ _ _ _ _ _
          rw [show trC C cn sn s ch = _ from if_pos hE]
          exact ⟨_, _, _, _, hA6⟩
        have B6 : Hid (Below B w w6) := (B3.out.trans hb4).trans hb6
        have K6 : Hid (Keeps w0.heap.size w w6) := (KP.out.grown B3.out.size hg4 (by have := b1s; omega)).trans (Nat.le_trans B3.out.size hg4.size) hk6
        have E6 := (show Hid _ from e6)
        have E4 : Hid (w4 = w3.setCell ⟨g3, ch * 2 + 1, none⟩ (.int .i64 (-1))) := e4
        clear hA4 hb4 hg4 m4 hA6 hb6 e6 e4 hk6 KP
        go_wp2_with fail
        rw [← E4.out]
        clear E4 c0 c1 d0 d1 f0 f1 A3 MS B3
        go_region_law (refine step_app rfl _ _ _ _ rfl _ _ _ _ rfl rfl HAPP.out ?_)
        all_goals
          go_end0
          rw [← E6.out]
          exact ⟨⟨_, rfl, A6.out, B6.out⟩, K6.out⟩
      · have hq : (ext cn C ch 0 == s) = false := by rw [beq_eq_false_iff_ne]; exact hE
        have c0 := A3.out.cell0
        have c1 := A3.out.cell1
        have d0 := A3.out.ch.cell hidx (f := 0) (by omega)
        have d1 := A3.out.ch.cell hidx (f := 1) (by omega)
        have f0 := A3.out.ch.frozen (ch * 2)
        have f1 := A3.out.ch.frozen (ch * 2 + 1)
        rw [Nat.add_zero] at d0
        obtain ⟨w4, e4, hA4, hb4, hg4⟩ := A3.out.setTwo hidx s sn
        have m4 := MS.out.kept hg4 (by simpa using nm)
        obtain ⟨g5, k5, w5, happ, p1, p2, w6, e6, hA6, hb6, hk6⟩ := hA4.addLog hsn m N1 N3
        have q1 := hA4.cell1
        have hab4 : ab < w4.heap.size := hA4.lt
        have hmb4 : w.heap.size < w4.heap.size := m4.lt
        have t0 := m4.cell 0 (by omega)
        have t1 := m4.cell 1 (by omega)
        have t2 := m4.cell 2 (by omega)
        have t3 := m4.cell 3 (by omega)
        have t4 := m4.cell 4 (by omega)
        have HAPP := (show Hid _ from happ)
        clear happ
        have A6 : Hid (Air B w6 ab (ch + 1) (sn + 1) (trC C cn sn s ch) (trM M sn m)) := by
          show Air _ _ _ _ _ _ _
          rw [show trC C cn sn s ch = _ from if_neg hE]
          exact ⟨_, _, _, _, hA6⟩
        have B6 : Hid (Below B w w6) := (B3.out.trans hb4).trans hb6
        have K6 : Hid (Keeps w0.heap.size w w6) := (KP.out.grown B3.out.size hg4 (by have := b1s; omega)).trans (Nat.le_trans B3.out.size hg4.size) hk6
        have E6 := (show Hid _ from e6)
        have E4 : Hid (w4 = (w3.setCell ⟨g3, ch * 2, none⟩ (.int .i64 s)).setCell ⟨g3, ch * 2 + 1, none⟩ (.int .i64 sn)) := e4
        clear hA4 hb4 hg4 m4 hA6 hb6 e6 e4 hk6 KP
        go_wp2_with fail
        rw [← E4.out]
        clear E4 c0 c1 d0 d1 f0 f1 A3 MS B3
        go_region_law (refine step_app rfl _ _ _ _ rfl _ _ _ _ rfl rfl HAPP.out ?_)
        all_goals
          go_end0
          rw [← E6.out]
          exact ⟨⟨_, rfl, A6.out, B6.out⟩, K6.out⟩

end Go.Proofs.Qxb6623390a
