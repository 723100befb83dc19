/-
  What the walk is told of an argument that is a slice of structs of ints.
-/
import Derived.Test.Qxb6623390aProg
import Derived.ProofKit
import Derived.Deep.Slices
import Derived.Deep.SlicePairs
namespace Go.Proofs.Qxb6623390a
open Go.ChangeShapes Go.WideShapes Go.RowKit

/-- A slice of structs of ints: where it lies, and field f of element i. -/
structure StrI where
  b : Nat
  o : Nat
  at_ : Nat → Nat → Int
structure StrIn (w : World) (a : Option Addr) (n c k : Nat) (z : StrI) : Prop where
  len : n ≤ maxLen
  addr : 0 < n → a = some ⟨z.b, z.o, none⟩
  cell : ∀ i, i < n → ∀ f, f < k → w.cell? ⟨z.b, z.o + i * k + f, none⟩ = some (.int .i64 (z.at_ i f))

theorem Try.cells3 : Try.prog.cellsOf 3 = 1 := by kernel_rfl

/-- One field, its cell told. -/
theorem field_of {H : Type} {enc : TypeId × Value → H} {W : World} {a : Addr} {e : TypeId} {fs : Array Field} {k n : Nat} {cs' : List Value} {x : DataW H × List MemPlace}
    (he : Try.prog.underlying e = some (.struct fs)) (hk : fs.size = k) (hfs : ∀ f, f < k → ∃ fd, fs[f]? = some fd ∧ fd.offset = f ∧ fd.type = 3)
    (h1 : W.cells? 0 a k = some cs') (h2 : DataW.trod enc Try.prog W 0 (fun _ => true) true n e cs' = some x) {f : Nat} (hf : f < k) : ∃ v : Int, W.cell? (a.add f) = some (.int .i64 v) := by
  obtain ⟨_, hlen, hcell⟩ := World.cells?_some h1
  obtain ⟨xs, m, _, _, _, hxl, hg⟩ := DataW.trod_struct he h2
  obtain ⟨fd, q1, q2, q3⟩ := hfs f hf
  have g := hg f fd q1
  rw [q2, q3, Try.cells3] at g
  have hx : f < xs.length := by omega
  rw [List.getElem?_eq_getElem hx] at g
  obtain ⟨v, hv, _⟩ := DataW.trod_int Try.underlying3 g
  have hc := hcell f hf
  refine ⟨v, ?_⟩
  rw [hc]
  have hfl : f < cs'.length := by omega
  rw [List.getElem?_eq_getElem hfl]
  rw [List.drop_eq_getElem_cons hfl, List.take_succ_cons, List.take_zero] at hv
  simp only [List.cons.injEq, and_true] at hv
  rw [hv]

theorem structs_open {H : Type} {enc : TypeId × Value → H} {W : World} {t e : TypeId} {fs : Array Field} {k : Nat} (ht : Try.prog.underlying t = some (.slice e)) (he : Try.prog.underlying e = some (.struct fs)) (ce : Try.prog.cellsOf e = k) (hk : fs.size = k) (hk0 : 0 < k)
    (hfs : ∀ f, f < k → ∃ fd, fs[f]? = some fd ∧ fd.offset = f ∧ fd.type = 3)
    {a : Option Addr} {n c : Nat} {d : DataW H} {p : List MemPlace} (h : DataW.Trod enc Try.prog W 0 (fun _ => true) true t (.slice a n c) d p) : ∃ z : StrI, StrIn W a n c k z := by
  obtain ⟨fuel, hf⟩ := h
  rcases Go.Deep.open_slice ht hf with ⟨hcs, _⟩ | ⟨x, l, c', m, nn, D, Pl, hcs, _, hl, hm, hmm, _, hx⟩
  · simp [Value.cells] at hcs
    obtain ⟨rfl, rfl, rfl⟩ := hcs
    exact ⟨⟨0, 0, fun _ _ => 0⟩, ⟨Nat.zero_le _, fun h => absurd h (Nat.lt_irrefl _), fun i h => absurd h (Nat.not_lt_zero _)⟩⟩
  · simp [Value.cells] at hcs
    obtain ⟨rfl, rfl, rfl⟩ := hcs
    simp only [if_true] at hmm
    subst hmm
    rw [ce] at hx
    have hv : ∀ i, i < n → ∀ f, f < k → ∃ v : Int, W.cell? ((x.add (i * k)).add f) = some (.int .i64 v) := fun i hi f hf => by
      obtain ⟨cs', h1, h2⟩ := hx i (by omega)
      exact field_of he hk hfs h1 h2 hf
    have hsp : 0 < n → x.spot = none := fun hn => by
      obtain ⟨v, hv⟩ := hv 0 hn 0 hk0
      obtain ⟨xb, xo, xs⟩ := x
      simpa [Addr.add] using World.cell?_spot hv
    have hv' : ∀ i f, ∃ v : Int, i < n → f < k → W.cell? ((x.add (i * k)).add f) = some (.int .i64 v) := fun i f => by
      by_cases hi : i < n
      · by_cases hf : f < k
        · obtain ⟨v, hv⟩ := hv i hi f hf
          exact ⟨v, fun _ _ => hv⟩
        · exact ⟨0, fun _ h => absurd h hf⟩
      · exact ⟨0, fun h => absurd h hi⟩
    obtain ⟨V, hV⟩ : ∃ V : Nat → Nat → Int, ∀ i f, i < n → f < k → W.cell? ((x.add (i * k)).add f) = some (.int .i64 (V i f)) := ⟨fun i f => Classical.choose (hv' i f), fun i f => Classical.choose_spec (hv' i f)⟩
    obtain ⟨xb, xo, xs⟩ := x
    refine ⟨⟨xb, xo, V⟩, ⟨by omega, fun h => ?_, fun i hi f hff => ?_⟩⟩
    · have := hsp h
      simp only at this
      subst this
      rfl
    · have e := hsp (by omega)
      simp only at e
      subst e
      have := hV i f hi hff
      rw [Addr.add_lit, Addr.add_lit] at this
      exact this

theorem chans_open22 {H : Type} {enc : TypeId × Value → H} {W : World} {a : Option Addr} {n c : Nat} {d : DataW H} {p : List MemPlace} (h : DataW.Trod enc Try.prog W 0 (fun _ => true) true 22 (.slice a n c) d p) :
    ∃ z : StrI, StrIn W a n c 2 z :=
  structs_open (k := 2) Try.underlying22 Try.underlying32 (by kernel_rfl) rfl (by omega) (fun f hf => by rcases (by omega : f = 0 ∨ f = 1) with rfl | rfl <;> exact ⟨_, rfl, rfl, rfl⟩) h
theorem msgs_open23 {H : Type} {enc : TypeId × Value → H} {W : World} {a : Option Addr} {n c : Nat} {d : DataW H} {p : List MemPlace} (h : DataW.Trod enc Try.prog W 0 (fun _ => true) true 23 (.slice a n c) d p) :
    ∃ z : StrI, StrIn W a n c 5 z :=
  structs_open (k := 5) Try.underlying23 Try.underlying34 (by kernel_rfl) rfl (by omega) (fun f hf => by rcases (by omega : f = 0 ∨ f = 1 ∨ f = 2 ∨ f = 3 ∨ f = 4) with rfl | rfl | rfl | rfl | rfl <;> exact ⟨_, rfl, rfl, rfl⟩) h
theorem txs_open24 {H : Type} {enc : TypeId × Value → H} {W : World} {a : Option Addr} {n c : Nat} {d : DataW H} {p : List MemPlace} (h : DataW.Trod enc Try.prog W 0 (fun _ => true) true 24 (.slice a n c) d p) :
    ∃ z : StrI, StrIn W a n c 6 z :=
  structs_open (k := 6) Try.underlying24 Try.underlying27 (by kernel_rfl) rfl (by omega) (fun f hf => by rcases (by omega : f = 0 ∨ f = 1 ∨ f = 2 ∨ f = 3 ∨ f = 4 ∨ f = 5) with rfl | rfl | rfl | rfl | rfl | rfl <;> exact ⟨_, rfl, rfl, rfl⟩) h

end Go.Proofs.Qxb6623390a
