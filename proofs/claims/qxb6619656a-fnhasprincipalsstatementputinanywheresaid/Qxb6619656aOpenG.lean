/-
  A [][]bool among the arguments, opened; the walk of law 7 as the row's step calls it.
-/
import Derived.Test.Qxb6619656aOpen
import Derived.Test.Qxb6619656aZzp
namespace Go.Proofs.Qxb6619656a
open Go.ChangeShapes Go.WideShapes Go.RowKit

structure GridArg (w : World) (a : Option Addr) (n c : Nat) (z : Grid) : Prop where
  grid : GridIn w a n z
  cap : n ≤ c
  len : n ≤ maxLen
  lens : ∀ r, r < n → z.L r ≤ maxLen

theorem grid_open38 {H : Type} {enc : TypeId × Value → H} {W : World} {a : Option Addr} {n c : Nat} {d : DataW H} {p : List MemPlace} (h : DataW.Trod enc Try.prog W 0 (fun _ => true) true 38 (.slice a n c) d p) :
    ∃ z : Grid, GridArg W a n c z := by
  obtain ⟨fuel, hf⟩ := h
  rcases Go.Deep.open_bool_rows Try.underlying38 Try.underlying42 Try.underlying4 Try.cells42 Try.cells4 hf with ⟨hcs, _⟩ | ⟨x, l, c', A, L, C, B, hcs, _, hl, hm, _, hrows⟩
  · simp [Value.cells] at hcs
    obtain ⟨rfl, rfl, rfl⟩ := hcs
    exact ⟨⟨0, 0, fun _ => none, fun _ => 0, fun _ => 0, fun _ => 0, fun _ => 0, fun _ _ => false⟩, ⟨⟨fun h => absurd h (Nat.lt_irrefl _), fun r h => absurd h (Nat.not_lt_zero _), fun r h => absurd h (Nat.not_lt_zero _)⟩, Nat.le_refl _, Nat.zero_le _, fun r h => absurd h (Nat.not_lt_zero _)⟩⟩
  · simp [Value.cells] at hcs
    obtain ⟨rfl, rfl, rfl⟩ := hcs
    obtain ⟨xb, xo, xs⟩ := x
    have hxs : 0 < n → xs = none := fun h => by
      have := spot_none (hrows 0 (by omega)).1
      exact this
    refine ⟨⟨xb, xo, A, L, C, fun r => ((A r).getD default).block, fun r => ((A r).getD default).off, B⟩, ⟨⟨fun h => by rw [hxs h], fun r hr => ?_, fun r hr c hc => ?_⟩, hl, Nat.le_trans hl hm, fun r hr => ?_⟩⟩
    · have := (hrows r (by omega)).1
      rw [hxs (by omega), add_plain'] at this
      exact this
    · obtain ⟨_, h1, _, h3, h4⟩ := hrows r (by omega)
      simp only
      cases hA : A r with
      | none => have := h3 hA; simp only at hc; omega
      | some a' =>
        obtain ⟨ab, ao, asp⟩ := a'
        obtain ⟨_, hcell⟩ := h4 _ hA
        have has : asp = none := spot_none (hcell 0 (by simp only at hc; omega))
        subst has
        refine ⟨rfl, ?_⟩
        have := hcell c (by simp only at hc; omega)
        rwa [add_plain'] at this
    · obtain ⟨_, h1, h2, _, _⟩ := hrows r (by omega)
      exact Nat.le_trans h1 h2

end Go.Proofs.Qxb6619656a
