/-
  What the walk is told of an argument that is a slice: []int, []string.
-/
import Derived.Test.Qxb6623411aBytes
import Derived.ProofKit
import Derived.Deep.Strs
import Derived.ChangeSlices
namespace Go.Proofs.Qxb6623411a
open Go.ChangeShapes Go.WideShapes Go.RowKit

theorem Try.cells9 : Try.prog.cellsOf 9 = 1 := by kernel_rfl
theorem Try.cells3 : Try.prog.cellsOf 3 = 1 := by kernel_rfl

theorem add_plain' (b o i : Nat) : (⟨b, o, none⟩ : Addr).add i = ⟨b, o + i, none⟩ := Addr.add_lit ..

theorem spot_none {w : World} {a : Addr} {v : Value} (h : w.cell? (a.add 0) = some v) : a.spot = none := by
  obtain ⟨b, o, sp⟩ := a
  simpa [Addr.add] using World.cell?_spot h

theorem strs_open23 {H : Type} {enc : TypeId × Value → H} {W : World} {a : Option Addr} {n c : Nat} {d : DataW H} {p : List MemPlace} (h : DataW.Trod enc Try.prog W 0 (fun _ => true) true 23 (.slice a n c) d p) :
    ∃ z : Strs, StrsIn W a n c z := by
  obtain ⟨fuel, hf⟩ := h
  rcases Go.Deep.open_strs Try.underlying23 Try.underlying9 Try.cells9 hf with ⟨hcs, _⟩ | ⟨x, l, c', m, S, hcs, _, hl, hm, hmm, _, hcell⟩
  · simp [Value.cells] at hcs
    obtain ⟨rfl, rfl, rfl⟩ := hcs
    exact ⟨⟨0, 0, fun _ => ByteArray.empty⟩, ⟨Nat.zero_le _, fun h => absurd h (Nat.lt_irrefl _), fun i h => absurd h (Nat.not_lt_zero _), fun i h => absurd h (Nat.not_lt_zero _)⟩⟩
  · simp [Value.cells] at hcs
    obtain ⟨rfl, rfl, rfl⟩ := hcs
    simp only [if_true] at hmm
    subst hmm
    obtain ⟨xb, xo, xs⟩ := x
    refine ⟨⟨xb, xo, S⟩, ⟨Nat.le_trans hl hm, fun h => ?_, fun i hi => ?_, fun i hi => (hcell i (by omega)).2⟩⟩
    · have := spot_none (hcell 0 (by omega)).1
      simp only at this
      subst this
      rfl
    · have := spot_none (hcell 0 (by omega)).1
      simp only at this
      subst this
      rw [← add_plain']
      exact (hcell i (by omega)).1

theorem ints_open22 {H : Type} {enc : TypeId × Value → H} {W : World} {a : Option Addr} {n c : Nat} {d : DataW H} {p : List MemPlace} (h : DataW.Trod enc Try.prog W 0 (fun _ => true) true 22 (.slice a n c) d p) :
    ∃ z : Ints, IntsIn W a n c z := by
  obtain ⟨fuel, hf⟩ := h
  rcases open_ints Try.underlying22 Try.underlying3 Try.cells3 hf with ⟨hcs, _⟩ | ⟨x, l, c', zs, hcs, _, hl, hm, hlen, _, hcell, hwf⟩
  · simp [Value.cells] at hcs
    obtain ⟨rfl, rfl, rfl⟩ := hcs
    exact ⟨⟨0, 0, fun _ => 0⟩, ⟨Nat.zero_le _, fun h => absurd h (Nat.lt_irrefl _), fun i h => absurd h (Nat.not_lt_zero _), fun i h => absurd h (Nat.not_lt_zero _)⟩⟩
  · simp [Value.cells] at hcs
    obtain ⟨rfl, rfl, rfl⟩ := hcs
    simp only [if_true] at hlen
    obtain ⟨xb, xo, xs⟩ := x
    refine ⟨⟨xb, xo, fun i => zs.getD i 0⟩, ⟨Nat.le_trans hl hm, fun h => ?_, fun i hi => ?_, fun i hi => ?_⟩⟩
    · have := spot_none (hcell 0 (by omega))
      simp only at this
      subst this
      rfl
    · have := spot_none (hcell 0 (by omega))
      simp only at this
      subst this
      rw [← add_plain']
      exact hcell i (by omega)
    · refine hwf _ ?_
      have hlt : i < zs.length := by omega
      show zs.getD i 0 ∈ zs
      rw [List.getD_eq_getElem?_getD, List.getElem?_eq_getElem hlt]
      exact List.getElem_mem hlt

end Go.Proofs.Qxb6623411a
