/-
  What the walks are told of an argument that is a slice: []string, [][]bool, [][]string.
-/
import Derived.Test.Qxb6619656aProg
import Derived.ProofKit
import Derived.Deep.Strs
import Derived.Deep.Grids
namespace Go.Proofs.Qxb6619656a
open Go.ChangeShapes Go.WideShapes Go.RowKit

theorem Try.cells9 : Try.prog.cellsOf 9 = 1 := by kernel_rfl
theorem Try.cells22 : Try.prog.cellsOf 22 = 1 := by kernel_rfl
theorem Try.cells4 : Try.prog.cellsOf 4 = 1 := by kernel_rfl
theorem Try.cells42 : Try.prog.cellsOf 42 = 1 := by kernel_rfl

/-- A []string: where its elements lie, and what they are. -/
structure Strs where
  b : Nat
  o : Nat
  at_ : Nat → ByteArray
structure StrsIn (w : World) (a : Option Addr) (n c : Nat) (z : Strs) : Prop where
  len : n ≤ maxLen
  addr : 0 < n → a = some ⟨z.b, z.o, none⟩
  cell : ∀ i, i < n → w.cell? ⟨z.b, z.o + i, none⟩ = some (.string (z.at_ i))
  size : ∀ i, i < n → (z.at_ i).size ≤ maxLen

theorem add_plain' (b o i : Nat) : (⟨b, o, none⟩ : Addr).add i = ⟨b, o + i, none⟩ := Addr.add_lit ..

/-- From 'the cells from a on' to plain block and offset. -/
theorem spot_none {w : World} {a : Addr} {v : Value} (h : w.cell? (a.add 0) = some v) : a.spot = none := by
  obtain ⟨b, o, sp⟩ := a
  simpa [Addr.add] using World.cell?_spot h

theorem strs_open22 {H : Type} {enc : TypeId × Value → H} {W : World} {a : Option Addr} {n c : Nat} {d : DataW H} {p : List MemPlace} (h : DataW.Trod enc Try.prog W 0 (fun _ => true) true 22 (.slice a n c) d p) :
    ∃ z : Strs, StrsIn W a n c z := by
  obtain ⟨fuel, hf⟩ := h
  rcases Go.Deep.open_strs Try.underlying22 Try.underlying9 Try.cells9 hf with ⟨hcs, _⟩ | ⟨x, l, c', m, S, hcs, _, hl, hm, hmm, _, hcell⟩
  · simp [Value.cells] at hcs
    obtain ⟨rfl, rfl, rfl⟩ := hcs
    exact ⟨⟨0, 0, fun _ => ByteArray.empty⟩, ⟨Nat.zero_le _, fun h => absurd h (Nat.lt_irrefl _), fun i h => absurd h (Nat.not_lt_zero _), fun i h => absurd h (Nat.not_lt_zero _)⟩⟩
  · simp [Value.cells] at hcs
    obtain ⟨rfl, rfl, rfl⟩ := hcs
    simp only [if_true] at hmm
    subst hmm
    obtain ⟨xb, xo, xs⟩ := x
    refine ⟨⟨xb, xo, S⟩, ⟨Nat.le_trans hl hm, fun h => ?_, fun i hi => ?_, fun i hi => (hcell i (by omega)).2⟩⟩
    · have := spot_none (hcell 0 (by omega)).1
      simp only at this
      subst this
      rfl
    · have := spot_none (hcell 0 (by omega)).1
      simp only at this
      subst this
      rw [← add_plain']
      exact (hcell i (by omega)).1

end Go.Proofs.Qxb6619656a
