/-
  Contracts of the readers: ZZAirLens (10), ZZAirChannel (11), ZZAirSent (13), ZZMessageFields (15), zzMsgIs (12); of zzBytes (4) and of ZZNewAir (5).
-/
import Derived.Test.Qxb6623390aAir
namespace Go.Proofs.Qxb6623390a
open Go.RowKit

theorem below_drewN {B : Nat} {a w : World} (h : Below B a w) (n : Nat) : Below B a (w.drewN n) := ⟨h.os, h.tape, h.output, h.size, h.block⟩

set_option maxRecDepth 100000 in
set_option maxHeartbeats 400000 in
theorem airLens_any (B ab cn sn : Nat) (C M : Nat → Nat → Int) (w : World) (h : Air B w ab cn sn C M) :
    Calls Try.prog 10 #[.pointer (some ⟨ab, 0, none⟩)] w (ValNew (.tuple #[.int .i64 cn, .int .i64 sn]) w) := by
  obtain ⟨gc, cc, gs, sc, h⟩ := h
  have c0 := h.cell0
  have c1 := h.cell1
  clear h
  go_enter Try.func10, Try.ntmps10
  go_wp2
  go_quiet (fail)
  go_wp2
  go_ret2
  exact ⟨rfl, below_drewN (Below.refl _ _) _⟩

set_option maxRecDepth 100000 in
set_option maxHeartbeats 400000 in
theorem airChannel_any (B ab cn sn i : Nat) (C M : Nat → Nat → Int) (w : World) (hi : i < cn) (h : Air B w ab cn sn C M) :
    Calls Try.prog 11 #[.pointer (some ⟨ab, 0, none⟩), .int .i64 i] w (ValNew (.tuple #[.int .i64 (C i 0), .int .i64 (C i 1)]) w) := by
  obtain ⟨gc, cc, gs, sc, h⟩ := h
  have c0 := h.cell0
  have d0 := h.ch.cell hi (f := 0) (by omega)
  have d1 := h.ch.cell hi (f := 1) (by omega)
  rw [Nat.add_zero] at d0
  have hi' : (i : Int) < (cn : Int) := by omega
  clear h
  go_enter Try.func11, Try.ntmps11
  go_wp2
  go_quiet (fail)
  go_wp2
  go_ret2
  exact ⟨rfl, below_drewN ((Below.refl _ _).alloc (Nat.le_refl _) _) _⟩

set_option maxRecDepth 100000 in
set_option maxHeartbeats 400000 in
theorem airSent_any (B ab cn sn i : Nat) (C M : Nat → Nat → Int) (w : World) (hi : i < sn) (h : Air B w ab cn sn C M) :
    Calls Try.prog 13 #[.pointer (some ⟨ab, 0, none⟩), .int .i64 i] w (ValNew (msgV (M i)) w) := by
  obtain ⟨gc, cc, gs, sc, h⟩ := h
  have hlt := h.log.lt.2
  have c1 := h.cell1
  have d0 := h.log.cell hi (f := 0) (by omega)
  have d1 := h.log.cell hi (f := 1) (by omega)
  have d2 := h.log.cell hi (f := 2) (by omega)
  have d3 := h.log.cell hi (f := 3) (by omega)
  have d4 := h.log.cell hi (f := 4) (by omega)
  rw [Nat.add_zero] at d0
  have hi' : (i : Int) < (sn : Int) := by omega
  have hlt2 := h.lt
  clear h
  go_enter Try.func13, Try.ntmps13
  go_wp2
  refine bodyPost_ret (results_cell_row rfl _ _ w.heap.size 37 _ (0, 0) _ rfl (heap_alloc_new w _) Try.underlying37 rfl (by kernel_rfl)) rfl ?_
  exact ⟨rfl, (Below.refl _ _).alloc (Nat.le_refl _) _⟩

theorem results_tmp5 {fn : Func} {a b c d e : Tmp} (h : fn.results = #[.tmp a, .tmp b, .tmp c, .tmp d, .tmp e]) (tmps : Array Value) (P : Program) (w : World) :
    (results fn tmps).run P w = .ok (.tuple #[tmps.getD a undef, tmps.getD b undef, tmps.getD c undef, tmps.getD d undef, tmps.getD e undef]) w := by
  simp [results, h]

set_option maxRecDepth 100000 in
set_option maxHeartbeats 400000 in
theorem fields_any (m : Nat → Int) (w : World) :
    Calls Try.prog 15 #[msgV m] w (ValNew (.tuple #[.int .i64 (m 0), .int .i64 (m 1), .int .i64 (m 2), .int .i64 (m 3), .int .i64 (m 4)]) w) := by
  unfold msgV
  go_enter Try.func15, Try.ntmps15
  go_wp2
  go_quiet (fail)
  go_wp2
  refine bodyPost_ret (results_tmp5 rfl _ _ _) rfl ?_
  exact ⟨rfl, below_drewN ((Below.refl _ _).alloc (Nat.le_refl _) _) _⟩

set_option maxRecDepth 100000 in
set_option maxHeartbeats 400000 in
theorem msgIs_any (m : Nat → Int) (w : World) :
    Calls Try.prog 12 #[msgV m, .int .i64 (m 0), .int .i64 (m 1), .int .i64 (m 2), .int .i64 (m 3), .int .i64 (m 4)] w (ValNew (.bool true) w) := by
  have HF : Hid (∀ w', Calls Try.prog 15 #[msgV m] w' (ValNew (.tuple #[.int .i64 (m 0), .int .i64 (m 1), .int .i64 (m 2), .int .i64 (m 3), .int .i64 (m 4)]) w')) := fun w' => fields_any m w'
  unfold msgV at HF ⊢
  go_enter Try.func12, Try.ntmps12
  go_wp2_with fail
  refine (HF.out _).mono ?_
  rintro e w1 ⟨rfl, hb1⟩
  have HB1 := (show Hid _ from hb1)
  clear hb1 HF
  go_wp2
  go_ret
  exact ⟨rfl, ((Below.refl w.heap.size w).alloc (Nat.le_refl _) _).trans (HB1.out.mono (by simp))⟩

def BoolRet (w : World) (e : Ending) (w' : World) : Prop := ∃ b : Bool, e = .returned (.bool b) ∧ w = w'

set_option maxRecDepth 100000 in
set_option maxHeartbeats 400000 in
theorem bytes_any (ia : Option Addr) (n ic : Nat) (sa : Option Addr) (sn sc : Nat) (x : Int) (ta : Option Addr) (tn tc : Nat) (w : World) (hn : n ≤ maxLen) (hs : sn ≤ maxLen) (ht : tn ≤ maxLen) :
    Calls Try.prog 4 #[.slice ia n ic, .slice sa sn sc, .int .i64 x, .slice ta tn tc] w (BoolRet w) := by
  unfold maxLen at hn hs ht
  go_enter Try.func4, Try.ntmps4
  go_wp2
  all_goals (go_ret; exact ⟨_, rfl, rfl⟩)

theorem Try.info51 : (Try.prog.info? 51).map (fun i => (i.zero, i.size, i.bytes)) = some (some (.agg #[.int .i64 0, .int .i64 0]), 2, 16) := by kernel_rfl
theorem Try.info37 : (Try.prog.info? 37).map (fun i => (i.zero, i.size, i.bytes)) = some (some (.agg #[.int .i64 0, .int .i64 0, .int .i64 0, .int .i64 0, .int .i64 0]), 5, 40) := by kernel_rfl

/-- A new air. -/
def AirRet (B cn sn : Nat) (w : World) (e : Ending) (w' : World) : Prop := ∃ ab, e = .returned (.pointer (some ⟨ab, 0, none⟩)) ∧ Air B w' ab cn sn (fun _ _ => 0) (fun _ _ => 0) ∧ Below B w w'

theorem air_new {B : Nat} {wx : World} {g1 cn c1 g2 sn c2 : Nat} {F G : Nat → Nat → Int} (h1 : RowI wx B 51 2 g1 cn c1 F) (h2 : RowI wx B 37 5 g2 sn c2 G) (hne : g1 ≠ g2) :
    Air B (wx.alloc (.cells #[.slice (some ⟨g1, 0, none⟩) cn c1, .slice (some ⟨g2, 0, none⟩) sn c2] 49)) wx.heap.size cn sn F G :=
  ⟨g1, c1, g2, c2, ⟨heap_alloc_new wx _, h1.kept (World.grownBy_alloc wx _ none) (by simp), h2.kept (World.grownBy_alloc wx _ none) (by simp), Nat.ne_of_lt h1.lt.2, Nat.ne_of_lt h2.lt.2, hne, by have := h1.lt; omega⟩⟩

set_option maxRecDepth 100000 in
set_option maxHeartbeats 400000 in
theorem newAir_any (cn sn : Nat) (w : World) (hcn : cn ≤ 1048576) (hsn : sn ≤ 1048576) :
    Calls Try.prog 5 #[.int .i64 cn, .int .i64 sn] w (AirRet w.heap.size cn sn w) := by
  obtain ⟨i1, hi1, hz1, hs1, hb1⟩ := info_parts Try.info51
  obtain ⟨i2, hi2, hz2, hs2, hb2⟩ := info_parts Try.info37
  obtain ⟨wa, ra, oa, ga⟩ := run_make_full (P := Try.prog) w.drew w.heap.size 46 51 i1 _ 2 Try.underlying46 hi1 hz1 hs1 .i64 .i64 cn (by rw [hb1]; omega) (by unfold maxLen; omega) (Nat.le_refl _)
  have sa : w.heap.size < wa.heap.size := (oa.lt _ rfl).2
  obtain ⟨wab, rab, oab, gab⟩ := run_make_full (P := Try.prog) wa w.heap.size 47 37 i2 _ 5 Try.underlying47 hi2 hz2 hs2 .i64 .i64 sn (by rw [hb2]; omega) (by unfold maxLen; omega) (by omega)
  obtain ⟨wb, rb, ob, gb⟩ := run_make_full (P := Try.prog) w.drew w.heap.size 47 37 i2 _ 5 Try.underlying47 hi2 hz2 hs2 .i64 .i64 sn (by rw [hb2]; omega) (by unfold maxLen; omega) (Nat.le_refl _)
  have sb : w.heap.size < wb.heap.size := (ob.lt _ rfl).2
  obtain ⟨wba, rba, oba, gba⟩ := run_make_full (P := Try.prog) wb w.heap.size 46 51 i1 _ 2 Try.underlying46 hi1 hz1 hs1 .i64 .i64 cn (by rw [hb1]; omega) (by unfold maxLen; omega) (by omega)
  have HA := (show Hid (wa.ownsRow _ _ _ _ _ _ ∧ w.drew.grownBy wa none ∧ wab.ownsRow _ _ _ _ _ _ ∧ wa.grownBy wab none) from ⟨oa, ga, oab, gab⟩)
  have HB := (show Hid (wb.ownsRow _ _ _ _ _ _ ∧ w.drew.grownBy wb none ∧ wba.ownsRow _ _ _ _ _ _ ∧ wb.grownBy wba none) from ⟨ob, gb, oba, gba⟩)
  clear oa ga oab gab ob gb oba gba hi1 hz1 hs1 hb1 hi2 hz2 hs2 hb2
  go_enter Try.func5, Try.ntmps5
  go_wp2
  go_region
  · go_wp2
    go_ret
    obtain ⟨oa, ga, oab, gab⟩ := HA.out
    have r1 : RowI wab w.heap.size 51 2 w.heap.size cn cn (fun _ _ => 0) := (RowI.made (w := wa) (z := #[.int .i64 0, .int .i64 0]) oa rfl (by simp)).kept gab (by simp)
    have r2 : RowI wab w.heap.size 37 5 wa.heap.size sn sn (fun _ _ => 0) := RowI.made (z := #[.int .i64 0, .int .i64 0, .int .i64 0, .int .i64 0, .int .i64 0]) oab rfl (by simp)
    have b0 : Below w.heap.size w wa := Below.grown (Below.drew (Below.refl w.heap.size w)) ga (Nat.le_refl w.heap.size) (fun _ h => by cases h)
    exact ⟨_, rfl, air_new r1 r2 (by omega), (b0.grown gab (by omega) (fun _ h => by cases h)).alloc (by have := gab.size; omega) _⟩
  · go_wp2
    go_ret
    obtain ⟨ob, gb, oba, gba⟩ := HB.out
    have r1 : RowI wba w.heap.size 37 5 w.heap.size sn sn (fun _ _ => 0) := (RowI.made (w := wb) (z := #[.int .i64 0, .int .i64 0, .int .i64 0, .int .i64 0, .int .i64 0]) ob rfl (by simp)).kept gba (by simp)
    have r2 : RowI wba w.heap.size 51 2 wb.heap.size cn cn (fun _ _ => 0) := RowI.made (z := #[.int .i64 0, .int .i64 0]) oba rfl (by simp)
    have b0 : Below w.heap.size w wb := Below.grown (Below.drew (Below.refl w.heap.size w)) gb (Nat.le_refl w.heap.size) (fun _ h => by cases h)
    exact ⟨_, rfl, air_new r2 r1 (by omega), (b0.grown gba (by omega) (fun _ h => by cases h)).alloc (by have := gba.size; omega) _⟩

end Go.Proofs.Qxb6623390a
