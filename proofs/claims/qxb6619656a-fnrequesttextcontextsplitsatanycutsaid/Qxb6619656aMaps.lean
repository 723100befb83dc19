/-
  Maps keyed by strings that the calls make: map[string]int told by a plain function; map[string][]string told by a list of places.
-/
import Derived.Test.Qxb6619656aSmall
import Derived.Maps.RangeWalk
import Derived.Maps.OwnOps
namespace Go.Proofs.Qxb6619656a
open Go.RowKit
open Go.Maps (Keyed string_keyed)

theorem law9 : Keyed Try.prog 9 := string_keyed Try.underlying9
theorem zero3 (w : World) : (zeroValue 3).run Try.prog w = .ok (.int .i64 0) w := by kernel_rfl

/-- What a string reads as, as a key. -/
def kl (b : ByteArray) : Lit := .string b.data.toList

theorem kl_inj {a b : ByteArray} (h : kl a = kl b) : a = b := by
  simp only [kl, Lit.string.injEq] at h
  cases a; cases b
  simp only [ByteArray.mk.injEq]
  exact Array.toList_inj.1 h

theorem key_kl {s : ByteArray} (h : s.size ≤ maxLen) : keyOf Try.prog 9 (.string s) = some (kl s) := Go.WideMaps.keyOf_string_mk Try.underlying9 h
theorem kl_key {s : ByteArray} (h : s.size ≤ maxLen) : WideAt.IsKeyLit (kl s) := law9.key (key_kl h)

/-- Block b is a map[string]int that holds f s at s (nought where there is no entry). -/
def IntMap (w : World) (b n : Nat) (f : ByteArray → Int) : Prop :=
  ∃ D : DataW Unit, w.ownsMap Try.prog 9 (plainElem Try.prog 3) b n D ∧ ∀ s, D.atKey (kl s) (.lit (.int .i64 0)) = .lit (.int .i64 (f s))

theorem IntMap.made (w : World) : IntMap (w.alloc (.map #[] 0)) w.heap.size 0 (fun _ => 0) :=
  ⟨.map [], World.ownsMap_made w _ _ _, fun _ => rfl⟩

theorem IntMap.kept {w w' : World} {b n : Nat} {f : ByteArray → Int} {row : Option Nat} (h : IntMap w b n f) (hg : w.grownBy w' row) (hne : some b ≠ row) : IntMap w' b n f := by
  obtain ⟨D, h1, h2⟩ := h
  exact ⟨D, h1.kept hg hne, h2⟩

theorem IntMap.drew {w : World} {b n : Nat} {f : ByteArray → Int} (h : IntMap w b n f) : IntMap w.drew b n f := h

theorem IntMap.lt {w : World} {b n : Nat} {f : ByteArray → Int} (h : IntMap w b n f) : b < w.heap.size := by
  obtain ⟨D, h1, _⟩ := h
  exact h1.lt

theorem IntMap.below {w w' : World} {b n B : Nat} {f : ByteArray → Int} (h : IntMap w b n f) (hb : Below B w w') (hB : b < B) : IntMap w' b n f := by
  obtain ⟨D, ⟨es, clock, e1, e2⟩, h2⟩ := h
  exact ⟨D, ⟨es, clock, (hb.block b hB).trans e1, e2⟩, h2⟩

theorem IntMap.look {w : World} {b n : Nat} {f : ByteArray → Int} (h : IntMap w b n f) {s : ByteArray} (hs : s.size ≤ maxLen) :
    (Instr.lookup 26 (.map (some b)) (.string s) false).run Try.prog w = .ok (.int .i64 (f s)) w := by
  obtain ⟨D, h1, h2⟩ := h
  obtain ⟨c, hrun, hat, _⟩ := h1.lookup_int law9 Try.underlying26 Try.underlying3 (zero3 _) (key_kl hs)
  rw [h2 s] at hat
  have e : f s = c := by simpa using hat
  rw [e]; exact hrun

theorem IntMap.store {w : World} {b n : Nat} {f : ByteArray → Int} (h : IntMap w b n f) (hn : n < maxLen) {s : ByteArray} (hs : s.size ≤ maxLen) {x : Int} (hx : (Lit.int .i64 x).wf = true) :
    ∃ w', (Instr.mapUpdate 26 (.map (some b)) (.string s) (.int .i64 x)).run Try.prog w = .ok () w' ∧ IntMap w' b (n + 1) (fun t => if t = s then x else f t) ∧ w.grownBy w' (some b) := by
  obtain ⟨D, h1, h2⟩ := h
  obtain ⟨w', hrun, h3, h4⟩ := h1.update law9 Try.underlying26 hn (key_kl hs) (plainElem_int (H := Unit) Try.underlying3 hx)
  refine ⟨w', hrun, ⟨_, h3, fun t => ?_⟩, h4⟩
  by_cases e : t = s
  · subst e
    rw [Maps.atKey_put_same (h1.isMap) (kl_key hs)]
    simp
  · rw [Maps.atKey_put_other (fun e' => e (kl_inj e')), h2 t]
    simp [e]

end Go.Proofs.Qxb6619656a
