/-
  The air: a struct of two slices behind a pointer. Contracts of ZZSetChannel (6), ZZSetSent (7), ZZMakeMessage (8).
-/
import Derived.Test.Qxb6623390aRow
import Derived.BigQuiet
import Derived.Deep.QuietTactic
import Derived.Deep.RegionWith
namespace Go.Proofs.Qxb6623390a
open Go.RowKit

structure AirAt (B : Nat) (w : World) (ab gc cn cc gs sn sc : Nat) (C M : Nat → Nat → Int) : Prop where
  blk : w.heap[ab]? = some (.cells #[.slice (some ⟨gc, 0, none⟩) cn cc, .slice (some ⟨gs, 0, none⟩) sn sc] 49 (0, 0))
  ch : RowI w B 51 2 gc cn cc C
  log : RowI w B 37 5 gs sn sc M
  ne1 : gc ≠ ab
  ne2 : gs ≠ ab
  ne3 : gc ≠ gs
  low : B ≤ ab

theorem AirAt.cell0 {B : Nat} {w : World} {ab gc cn cc gs sn sc : Nat} {C M : Nat → Nat → Int} (h : AirAt B w ab gc cn cc gs sn sc C M) : w.cell? ⟨ab, 0, none⟩ = some (.slice (some ⟨gc, 0, none⟩) cn cc) := by
  rw [cell_of_row w ab 0 _ 49 (0, 0) h.blk]; rfl
theorem AirAt.cell1 {B : Nat} {w : World} {ab gc cn cc gs sn sc : Nat} {C M : Nat → Nat → Int} (h : AirAt B w ab gc cn cc gs sn sc C M) : w.cell? ⟨ab, 1, none⟩ = some (.slice (some ⟨gs, 0, none⟩) sn sc) := by
  rw [cell_of_row w ab 1 _ 49 (0, 0) h.blk]; rfl
theorem AirAt.frz {B : Nat} {w : World} {ab gc cn cc gs sn sc : Nat} {C M : Nat → Nat → Int} (h : AirAt B w ab gc cn cc gs sn sc C M) (j : Nat) : w.frozen? ⟨ab, j, none⟩ = false := by
  simp [World.frozen?, h.blk]
theorem AirAt.lt {B : Nat} {w : World} {ab gc cn cc gs sn sc : Nat} {C M : Nat → Nat → Int} (h : AirAt B w ab gc cn cc gs sn sc C M) : ab < w.heap.size := (Array.getElem?_eq_some_iff.1 h.blk).1

theorem AirAt.later {B : Nat} {w w' : World} {ab gc cn cc gs sn sc : Nat} {C M : Nat → Nat → Int} (h : AirAt B w ab gc cn cc gs sn sc C M) (hb : Below w.heap.size w w') : AirAt B w' ab gc cn cc gs sn sc C M :=
  ⟨(hb.block _ h.lt).trans h.blk, h.ch.at_ (hb.block _ h.ch.lt.2), h.log.at_ (hb.block _ h.log.lt.2), h.ne1, h.ne2, h.ne3, h.low⟩

def Air (B : Nat) (w : World) (ab cn sn : Nat) (C M : Nat → Nat → Int) : Prop := ∃ gc cc gs sc, AirAt B w ab gc cn cc gs sn sc C M

theorem Air.later {B : Nat} {w w' : World} {ab cn sn : Nat} {C M : Nat → Nat → Int} (h : Air B w ab cn sn C M) (hb : Below w.heap.size w w') : Air B w' ab cn sn C M := by
  obtain ⟨gc, cc, gs, sc, h⟩ := h
  exact ⟨gc, cc, gs, sc, h.later hb⟩
theorem Air.lt {B : Nat} {w : World} {ab cn sn : Nat} {C M : Nat → Nat → Int} (h : Air B w ab cn sn C M) : ab < w.heap.size := by
  obtain ⟨gc, cc, gs, sc, h⟩ := h
  exact h.lt
theorem Air.low {B : Nat} {w : World} {ab cn sn : Nat} {C M : Nat → Nat → Int} (h : Air B w ab cn sn C M) : B ≤ ab := by
  obtain ⟨gc, cc, gs, sc, h⟩ := h
  exact h.low

/-- Nothing comes back; the air has turned so; nothing below B has. -/
def AirNow (B ab cn sn : Nat) (C M : Nat → Nat → Int) (w : World) (e : Ending) (w' : World) : Prop := ∃ v, e = .returned v ∧ Air B w' ab cn sn C M ∧ Below B w w'

def put2 (C : Nat → Nat → Int) (i : Nat) (a b : Int) : Nat → Nat → Int := fun i' f => if i' = i then (if f = 0 then a else b) else C i' f

theorem AirAt.setCh {B : Nat} {w : World} {ab gc cn cc gs sn sc : Nat} {C M : Nat → Nat → Int} (h : AirAt B w ab gc cn cc gs sn sc C M) {i : Nat} (hi : i < cn) (a b : Int) :
    Air B ((w.setCell ⟨gc, i * 2, none⟩ (.int .i64 a)).setCell ⟨gc, i * 2 + 1, none⟩ (.int .i64 b)) ab cn sn (put2 C i a b) M ∧ Below B w ((w.setCell ⟨gc, i * 2, none⟩ (.int .i64 a)).setCell ⟨gc, i * 2 + 1, none⟩ (.int .i64 b)) := by
  obtain ⟨h1, h2⟩ := h.ch.set (f := 0) hi (by omega) a
  obtain ⟨h3, h4⟩ := h1.set (f := 1) hi (by omega) b
  rw [Nat.add_zero] at h1 h2 h3 h4
  have hg := grown_trans h2 h4
  refine ⟨⟨gc, cc, gs, sc, ⟨?_, h3.eq fun i' _ f hf => ?_, h.log.kept hg (by simpa using h.ne3.symm), h.ne1, h.ne2, h.ne3, h.low⟩⟩, ?_⟩
  · rw [hg.block ab h.lt (by simpa using h.ne1.symm)]; exact h.blk
  · show _ = put2 C i a b i' f
    unfold put2
    by_cases e : i' = i
    · rcases (by omega : f = 0 ∨ f = 1) with rfl | rfl <;> simp [e]
    · simp [e]
  · exact (Below.refl _ _).grown hg (by have := h.low; have := h.lt; omega) (fun k e => by cases e; exact h.ch.lt.1)

theorem build51 (a b : Int) (w : World) : (Instr.build 51 #[(0, .int .i64 a), (1, .int .i64 b)]).run Try.prog w = .ok (.agg #[.int .i64 a, .int .i64 b]) w := run_build w 51 _ _ (by kernel_rfl)

set_option maxRecDepth 100000 in
set_option maxHeartbeats 400000 in
theorem setChannel_any (B ab cn sn i : Nat) (C M : Nat → Nat → Int) (a b : Int) (w : World) (_hcn : cn ≤ 1048576) (hi : i < cn) (h : Air B w ab cn sn C M) :
    Calls Try.prog 6 #[.pointer (some ⟨ab, 0, none⟩), .int .i64 i, .int .i64 a, .int .i64 b] w (AirNow B ab cn sn (put2 C i a b) M w) := by
  obtain ⟨gc, cc, gs, sc, h⟩ := h
  have HA := (show Hid _ from h)
  have c0 := h.cell0
  have d0 := h.ch.cell hi (f := 0) (by omega)
  have d1 := h.ch.cell hi (f := 1) (by omega)
  have f0 := h.ch.frozen (i * 2)
  have f1 := h.ch.frozen (i * 2 + 1)
  rw [Nat.add_zero] at d0
  have hi' : (i : Int) < (cn : Int) := by omega
  clear h
  go_enter Try.func6, Try.ntmps6
  go_wp2
  go_end0
  exact ⟨_, rfl, HA.out.setCh hi a b⟩

/-- A message of five ints. -/
def msgV (m : Nat → Int) : Value := .agg #[.int .i64 (m 0), .int .i64 (m 1), .int .i64 (m 2), .int .i64 (m 3), .int .i64 (m 4)]

/-- A value comes back; nothing old has turned. -/
def ValNew (v : Value) (w : World) (e : Ending) (w' : World) : Prop := e = .returned v ∧ Below w.heap.size w w'

set_option maxRecDepth 100000 in
set_option maxHeartbeats 400000 in
theorem makeMessage_any (m : Nat → Int) (w : World) :
    Calls Try.prog 8 #[.int .i64 (m 0), .int .i64 (m 1), .int .i64 (m 2), .int .i64 (m 3), .int .i64 (m 4)] w (ValNew (msgV m) w) := by
  go_enter Try.func8, Try.ntmps8
  go_wp2
  refine bodyPost_ret (results_cell_row rfl _ _ w.heap.size 37 _ (0, 0) _ rfl (heap_alloc_new w _) Try.underlying37 rfl (by kernel_rfl)) rfl ?_
  exact ⟨rfl, (Below.refl _ _).alloc (Nat.le_refl _) _⟩

def put5 (M : Nat → Nat → Int) (i : Nat) (m : Nat → Int) : Nat → Nat → Int := fun i' f => if i' = i then m f else M i' f

theorem AirAt.setMsg {B : Nat} {w : World} {ab gc cn cc gs sn sc : Nat} {C M : Nat → Nat → Int} (h : AirAt B w ab gc cn cc gs sn sc C M) {i : Nat} (hi : i < sn) (m : Nat → Int) :
    ∃ w', w' = (((((w.setCell ⟨gs, i * 5, none⟩ (.int .i64 (m 0))).setCell ⟨gs, i * 5 + 1, none⟩ (.int .i64 (m 1))).setCell ⟨gs, i * 5 + 2, none⟩ (.int .i64 (m 2))).setCell ⟨gs, i * 5 + 3, none⟩ (.int .i64 (m 3))).setCell ⟨gs, i * 5 + 4, none⟩ (.int .i64 (m 4))) ∧
      Air B w' ab cn sn C (put5 M i m) ∧ Below B w w' := by
  obtain ⟨h1, g1⟩ := h.log.set (f := 0) hi (by omega) (m 0)
  obtain ⟨h2, g2⟩ := h1.set (f := 1) hi (by omega) (m 1)
  obtain ⟨h3, g3⟩ := h2.set (f := 2) hi (by omega) (m 2)
  obtain ⟨h4, g4⟩ := h3.set (f := 3) hi (by omega) (m 3)
  obtain ⟨h5, g5⟩ := h4.set (f := 4) hi (by omega) (m 4)
  rw [Nat.add_zero] at g1 g2 g3 g4 g5 h5
  have hg := grown_trans g1 (grown_trans g2 (grown_trans g3 (grown_trans g4 g5)))
  refine ⟨_, rfl, ⟨gc, cc, gs, sc, ⟨?_, h.ch.kept hg (by simpa using h.ne3), h5.eq fun i' _ f hf => ?_, h.ne1, h.ne2, h.ne3, h.low⟩⟩, ?_⟩
  · rw [hg.block ab h.lt (by simpa using h.ne2.symm)]; exact h.blk
  · show _ = put5 M i m i' f
    unfold put5
    by_cases e : i' = i
    · rcases (by omega : f = 0 ∨ f = 1 ∨ f = 2 ∨ f = 3 ∨ f = 4) with rfl | rfl | rfl | rfl | rfl <;> simp [e]
    · simp [e]
  · exact (Below.refl _ _).grown hg (by have := h.low; have := h.lt; omega) (fun k e => by cases e; exact h.log.lt.1)

set_option maxRecDepth 100000 in
set_option maxHeartbeats 400000 in
theorem setSent_any (B ab cn sn i : Nat) (C M : Nat → Nat → Int) (m : Nat → Int) (w : World) (_hsn : sn ≤ 1048576) (hi : i < sn) (h : Air B w ab cn sn C M) :
    Calls Try.prog 7 #[.pointer (some ⟨ab, 0, none⟩), .int .i64 i, msgV m] w (AirNow B ab cn sn C (put5 M i m) w) := by
  obtain ⟨gc, cc, gs, sc, h⟩ := h
  have h1 := h.later ((Below.refl _ _).alloc (Nat.le_refl _) (.cells #[.int .i64 (m 0), .int .i64 (m 1), .int .i64 (m 2), .int .i64 (m 3), .int .i64 (m 4)] 37))
  have HA := (show Hid _ from h1)
  have c1 := h1.cell1
  have d0 := h1.log.cell hi (f := 0) (by omega)
  have d1 := h1.log.cell hi (f := 1) (by omega)
  have d2 := h1.log.cell hi (f := 2) (by omega)
  have d3 := h1.log.cell hi (f := 3) (by omega)
  have d4 := h1.log.cell hi (f := 4) (by omega)
  have f0 := h1.log.frozen (i * 5)
  have f1 := h1.log.frozen (i * 5 + 1)
  have f2 := h1.log.frozen (i * 5 + 2)
  have f3 := h1.log.frozen (i * 5 + 3)
  have f4 := h1.log.frozen (i * 5 + 4)
  rw [Nat.add_zero] at d0
  have hi' : (i : Int) < (sn : Int) := by omega
  have HL : Hid (B ≤ w.heap.size) := by show B ≤ w.heap.size; have := h.low; have := h.lt; omega
  clear h h1
  unfold msgV
  go_enter Try.func7, Try.ntmps7
  go_wp2
  go_region
  go_end0
  obtain ⟨w', e, h1, h2⟩ := HA.out.setMsg hi m
  rw [← e]
  refine ⟨_, rfl, h1.later (Below.refl _ _).drew, ?_⟩
  have hs := HL.out
  exact ((Below.refl B w).alloc (by omega) _).trans h2.drew

end Go.Proofs.Qxb6623390a
