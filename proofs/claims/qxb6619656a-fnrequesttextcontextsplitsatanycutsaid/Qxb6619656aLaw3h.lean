/-
  Plain facts for the walk of FnRequestTextContextSplitsAtAnyCut (3).
-/
import Derived.Test.Qxb6619656aLaw4
import Derived.Test.Qxb6619656aNilr
namespace Go.Proofs.Qxb6619656a
open Go.RowKit

theorem valsOf_app (z : SGrid) (I J : List Nat) : valsOf z (I ++ J) = valsOf z I ++ valsOf z J := by simp [valsOf, List.flatMap_append]

theorem ctxI_cut_aux (S : Nat → ByteArray) (n cut : Nat) : ∀ d, ctxI S n 0 (cut + d) = ctxI S n 0 cut ++ ctxI S n cut (cut + d)
  | 0 => by rw [Nat.add_zero, ctxI_lo, List.append_nil]
  | d + 1 => by
    have ih := ctxI_cut_aux S n cut d
    cases hq : (lastF S n (S (cut + d)) == ((cut + d : Nat) : Int)) with
    | true => rw [← Nat.add_assoc, ctxI_succ_in S n 0 (cut + d) (Nat.zero_le _) hq, ctxI_succ_in S n cut (cut + d) (by omega) hq, ih, List.append_assoc]
    | false => rw [← Nat.add_assoc, ctxI_succ_out S n 0 (cut + d) hq, ctxI_succ_out S n cut (cut + d) hq, ih]

theorem ctxI_cut (S : Nat → ByteArray) (n cut : Nat) (h : cut ≤ n) : ctxI S n 0 n = ctxI S n 0 cut ++ ctxI S n cut n := by
  have := ctxI_cut_aux S n cut (n - cut)
  rwa [show cut + (n - cut) = n by omega] at this

theorem take_getS (xs : List ByteArray) (j : Nat) (h : j < xs.length) : xs.take (j + 1) = xs.take j ++ [getS xs j] := by
  rw [List.take_succ_eq_append_getElem h]
  simp [getS, List.getD, h]

theorem getS_pre (pre ys : List ByteArray) (i : Nat) (h : i < pre.length) : getS (pre ++ ys) i = getS pre i := by
  simp [getS, List.getD, List.getElem?_append_left h]

/-- 'v[:k]'. -/
theorem StrV.to_ {w : World} {v : Value} {n : Nat} {g cap : Nat} {pre ys : List ByteArray} (h : StrV w v n (some ⟨g, 0, none⟩) cap g (pre ++ ys)) (k : Nat) (hk : pre.length = k) : SlStr w (some ⟨g, 0, none⟩) k g 0 (getS pre) := by
  have hl := h.len
  rw [List.length_append] at hl
  refine ⟨fun _ => rfl, fun i hi => ?_, fun i hi => ?_⟩
  · rw [h.str.cell i (by omega), getS_pre _ _ _ (by omega)]
  · have := h.str.size i (by omega)
    rwa [getS_pre _ _ _ (by omega)] at this

theorem StrV.cell_from {w : World} {v : Value} {n : Nat} {ao : Option Addr} {g cap : Nat} {pre ys : List ByteArray} (h : StrV w v n ao cap g (pre ++ ys)) (k : Nat) (hk : pre.length = k) (j : Nat) (hj : j + k < n) : w.cell? ⟨g, j + k, none⟩ = some (.string (getS ys j)) := by
  have := h.str.cell (j + k) hj
  rw [Nat.zero_add] at this
  rw [this, Nat.add_comm j k, ← hk, getS_app]

theorem own_one (w : World) (a b : ByteArray) : OwnStrs (w.alloc (.cells #[.string a, .string b] 9)) w.heap.size (.slice (some ⟨w.heap.size, 0, none⟩) 2 2) [a, b] :=
  World.ownsRow_lit (base := w.heap.size) (e := 9) (size := 1) w #[.string a, .string b] 2 (Nat.le_refl _) (by decide) rfl

theorem cell_next (w : World) (o1 : Obj) (x : Value) (e : TypeId) : ((w.alloc o1).alloc (.cells #[x] e)).cell? ((⟨w.heap.size + 1, 0, none⟩ : Addr).add 0) = some x := by
  have h := cell_one_new (w.alloc o1) x e 0 x rfl
  rw [Go.Deep.nblk_alloc] at h
  exact h

theorem strV_two (w : World) (a b : ByteArray) (ha : a.size ≤ maxLen) (hb : b.size ≤ maxLen) : StrV (w.alloc (.cells #[.string a, .string b] 9)) (.slice (some ⟨w.heap.size, 0, none⟩) 2 2) 2 (some ⟨w.heap.size, 0, none⟩) 2 w.heap.size (preOf a b none) := by
  refine ⟨rfl, rfl, Nat.le_refl _, by decide, ⟨fun _ => rfl, fun i hi => ?_, fun i hi => ?_⟩⟩
  · rw [World.cell?_alloc_at _ _ _ _ rfl]
    match i, hi with
    | 0, _ => rfl
    | 1, _ => rfl
  · match i, hi with
    | 0, _ => exact ha
    | 1, _ => exact hb

end Go.Proofs.Qxb6619656a
