/-
  A [][]string among the arguments, opened; the walk of law 4 as the row's step calls it.
-/
import Derived.Test.Qxb6619656aOpen
import Derived.Test.Qxb6619656aCtx
namespace Go.Proofs.Qxb6619656a
open Go.ChangeShapes Go.WideShapes Go.RowKit

structure SGridArg (w : World) (a : Option Addr) (n c : Nat) (z : SGrid) : Prop where
  grid : SGridIn w a n z
  len : n ≤ maxLen
  lens : ∀ r, z.L r ≤ maxLen

/-- One row of strings: nil, or where it lies. -/
theorem row_open {H : Type} {enc : TypeId × Value → H} {W : World} {fuel : Nat} {v : Value} {x : DataW H × List MemPlace} (h : DataW.trod enc Try.prog W 0 (fun _ => true) true fuel 22 [v] = some x) :
    ∃ y : Option Addr × Nat × Nat × Nat × Nat × (Nat → ByteArray), v = .slice y.1 y.2.1 y.2.2.1 ∧ y.2.1 ≤ maxLen ∧ (y.1 = none → y.2.1 = 0 ∧ y.2.2.1 = 0) ∧ SlStr W y.1 y.2.1 y.2.2.2.1 y.2.2.2.2.1 y.2.2.2.2.2 := by
  rcases Go.Deep.open_strs Try.underlying22 Try.underlying9 Try.cells9 h with ⟨hcs, _⟩ | ⟨a, l, c', m, S, hcs, _, hl, hm, hmm, _, hcell⟩
  · simp at hcs
    exact ⟨(none, 0, 0, 0, 0, fun _ => ByteArray.empty), hcs, Nat.zero_le _, fun _ => ⟨rfl, rfl⟩, ⟨fun h => absurd h (Nat.lt_irrefl _), fun i h => absurd h (Nat.not_lt_zero _), fun i h => absurd h (Nat.not_lt_zero _)⟩⟩
  · simp at hcs
    simp only [if_true] at hmm
    subst hmm
    obtain ⟨xb, xo, xs⟩ := a
    have hxs : 0 < l → xs = none := fun h => spot_none (hcell 0 (by omega)).1
    have hstr : SlStr W (some ⟨xb, xo, xs⟩) l xb xo S := ⟨fun h => by rw [hxs h], fun i hi => by
      have := (hcell i (by omega)).1
      rw [hxs (by omega), add_plain'] at this
      exact this, fun i hi => (hcell i (by omega)).2⟩
    exact ⟨(some ⟨xb, xo, xs⟩, l, m, xb, xo, S), hcs, Nat.le_trans hl hm, (fun h => by cases h), hstr⟩

theorem sgrid_open23 {H : Type} {enc : TypeId × Value → H} {W : World} {a : Option Addr} {n c : Nat} {d : DataW H} {p : List MemPlace} (h : DataW.Trod enc Try.prog W 0 (fun _ => true) true 23 (.slice a n c) d p) :
    ∃ z : SGrid, SGridArg W a n c z := by
  obtain ⟨fuel, hf⟩ := h
  rcases Go.Deep.open_slice1 Try.underlying23 Try.cells22 hf with ⟨hcs, _⟩ | ⟨x, l, c', m, fu, V, D, Pl, hcs, _, hl, hm, hmm, _, hrows⟩
  · simp [Value.cells] at hcs
    obtain ⟨rfl, rfl, rfl⟩ := hcs
    exact ⟨⟨0, 0, fun _ => none, fun _ => 0, fun _ => 0, fun _ => 0, fun _ => 0, fun _ _ => ByteArray.empty⟩, ⟨⟨fun h => absurd h (Nat.lt_irrefl _), fun r h => absurd h (Nat.not_lt_zero _), fun r _ => ⟨rfl, rfl, rfl⟩, fun r _ => ⟨rfl, rfl⟩,
      fun r => ⟨fun h => absurd h (Nat.lt_irrefl _), fun i h => absurd h (Nat.not_lt_zero _), fun i h => absurd h (Nat.not_lt_zero _)⟩⟩, Nat.zero_le _, fun r => Nat.zero_le _⟩⟩
  · simp [Value.cells] at hcs
    obtain ⟨rfl, rfl, rfl⟩ := hcs
    simp only [if_true] at hmm
    subst hmm
    obtain ⟨xb, xo, xs⟩ := x
    have hxs : 0 < n → xs = none := fun h => spot_none (hrows 0 (by omega)).1
    obtain ⟨y, hy⟩ := Go.Deep.choose_lt (fun i (hi : i < n) => row_open (hrows i (by omega)).2)
    refine ⟨⟨xb, xo, fun r => if r < n then (y r).1 else none, fun r => if r < n then (y r).2.1 else 0, fun r => if r < n then (y r).2.2.1 else 0, fun r => (y r).2.2.2.1, fun r => (y r).2.2.2.2.1, fun r => (y r).2.2.2.2.2⟩,
      ⟨⟨fun h => by rw [hxs h], fun r hr => ?_, fun r hr => ?_, fun r hA => ?_, fun r => ?_⟩, Nat.le_trans hl hm, fun r => ?_⟩⟩
    · have := (hrows r (by omega)).1
      rw [hxs (by omega), add_plain'] at this
      simp only [if_pos hr]
      rw [this, (hy r hr).1]
    · have e : ¬ r < n := by omega
      exact ⟨if_neg e, if_neg e, if_neg e⟩
    · by_cases e : r < n
      · simp only [if_pos e] at hA ⊢
        exact (hy r e).2.2.1 hA
      · exact ⟨if_neg e, if_neg e⟩
    · by_cases e : r < n
      · simp only [if_pos e]
        exact (hy r e).2.2.2
      · simp only [if_neg e]
        exact ⟨fun h => absurd h (Nat.lt_irrefl _), fun i h => absurd h (Nat.not_lt_zero _), fun i h => absurd h (Nat.not_lt_zero _)⟩
    · by_cases e : r < n
      · simp only [if_pos e]
        exact (hy r e).2.1
      · simp only [if_neg e]
        exact Nat.zero_le _

end Go.Proofs.Qxb6619656a
