/-
  Plain facts on lists of strings; from an owned slice to its cells.
-/
import Derived.Test.Qxb6619656aZzr
namespace Go.Proofs.Qxb6619656a
open Go.RowKit

def getS (xs : List ByteArray) : Nat → ByteArray := fun i => xs.getD i ByteArray.empty

theorem cntF_take (xs : List ByteArray) (b : ByteArray) : ∀ k, k ≤ xs.length → cntF (getS xs) k b = ((xs.take k).countP (fun x => decide (b = x)) : Int)
  | 0, _ => by simp [cntF]
  | k + 1, h => by
    rw [cntF, cntF_take xs b k (by omega), List.take_succ_eq_append_getElem (by omega), List.countP_append]
    have : getS xs k = xs[k] := by simp [getS, List.getD, show k < xs.length by omega]
    rw [this]
    by_cases e : b = xs[k]
    · simp [e]
    · simp [e]

theorem cntF_list (xs : List ByteArray) (b : ByteArray) : cntF (getS xs) xs.length b = (xs.countP (fun x => decide (b = x)) : Int) := by
  rw [cntF_take xs b _ (Nat.le_refl _), List.take_length]

theorem cntF_perm {xs ys : List ByteArray} (h : xs.Perm ys) (n : Nat) (hx : xs.length = n) (hy : ys.length = n) (b : ByteArray) : cntF (getS xs) n b = cntF (getS ys) n b := by
  have h1 := cntF_list xs b
  have h2 := cntF_list ys b
  rw [hx] at h1
  rw [hy] at h2
  rw [h1, h2, h.countP_eq]

theorem valsOf_perm (z : SGrid) {I J : List Nat} (h : I.Perm J) : (valsOf z I).Perm (valsOf z J) := List.Perm.flatMap_right _ h

theorem getS_app (pre ys : List ByteArray) (i : Nat) : getS (pre ++ ys) (pre.length + i) = getS ys i := by
  simp [getS, List.getD, List.getElem?_append_right]

/-- An owned slice, cell by cell. -/
structure StrV (w : World) (v : Value) (n : Nat) (ao : Option Addr) (cap g : Nat) (xs : List ByteArray) : Prop where
  form : v = .slice ao n cap
  len : xs.length = n
  fits : n ≤ cap
  capm : cap ≤ maxLen
  str : SlStr w ao n g 0 (getS xs)

theorem OwnStrs.open_ {w : World} {base : Nat} {v : Value} {xs : List ByteArray} (h : OwnStrs w base v xs) (n : Nat) (hn : xs.length = n) (hs : ∀ x, x ∈ xs → x.size ≤ maxLen) : ∃ ao cap g, StrV w v n ao cap g xs := by
  have hsz : ∀ i, i < n → (getS xs i).size ≤ maxLen := fun i hi => by
    have : getS xs i = xs[i] := by simp [getS, List.getD, show i < xs.length by omega]
    rw [this]; exact hs _ (List.getElem_mem _)
  have h0 := h
  rcases h.2 with ⟨rfl, h1⟩ | ⟨g, cap, cur, rfl, h2, h3, h4, h5, h6, h7⟩
  · rw [hn] at h1
    subst h1
    exact ⟨none, 0, 0, rfl, hn, Nat.le_refl _, Nat.zero_le _, ⟨fun h => absurd h (Nat.lt_irrefl _), fun i hi => absurd hi (Nat.not_lt_zero _), hsz⟩⟩
  · refine ⟨some ⟨g, 0, none⟩, cap, g, by rw [hn], hn, by omega, h5, ⟨fun _ => rfl, fun i hi => ?_, hsz⟩⟩
    have := World.ownsRow.cellAt h0 i (by omega)
    rw [Nat.zero_add, this, List.getElem?_map]
    simp [getS, List.getD, show i < xs.length by omega]

theorem StrV.later {w w' : World} {v : Value} {n : Nat} {ao : Option Addr} {cap g B : Nat} {xs : List ByteArray} (h : StrV w v n ao cap g xs) (hb : Below B w w') (hB : w.heap.size ≤ B) : StrV w' v n ao cap g xs :=
  ⟨h.form, h.len, h.fits, h.capm, h.str.later hb hB⟩

/-- 'v[k:]'. -/
theorem StrV.from_ {w : World} {v : Value} {n : Nat} {ao : Option Addr} {cap g : Nat} {pre ys : List ByteArray} (h : StrV w v n ao cap g (pre ++ ys)) (k : Nat) (hk : pre.length = k) (a' : Option Addr) (ha : 0 < n - k → a' = some ⟨g, k, none⟩) : SlStr w a' (n - k) g k (getS ys) := by
  have hl := h.len
  rw [List.length_append] at hl
  refine ⟨ha, fun i hi => ?_, fun i hi => ?_⟩
  · have := h.str.cell (k + i) (by omega)
    rw [Nat.zero_add] at this
    rw [this, ← hk, getS_app]
  · have := h.str.size (k + i) (by omega)
    rw [← hk, getS_app] at this
    exact this

end Go.Proofs.Qxb6619656a
