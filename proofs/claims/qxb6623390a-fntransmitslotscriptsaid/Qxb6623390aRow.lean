/-
  A row of structs of ints that the call owns, told by a plain function; the air.
-/
import Derived.Test.Qxb6623390aApp
import Derived.OwnWalk
namespace Go.Proofs.Qxb6623390a
open Go.RowKit

/-- At g lies a row of n elements of k ints each: element i's field f is F i f. -/
def RowI (w : World) (B : Nat) (e : TypeId) (k g n cap : Nat) (F : Nat → Nat → Int) : Prop :=
  ∃ xs, w.ownsRow B e k (.slice (some ⟨g, 0, none⟩) n cap) n xs ∧ ∀ i, i < n → ∀ f, f < k → xs[i * k + f]? = some (.int .i64 (F i f))

theorem in_row {i n f k : Nat} (hi : i < n) (hf : f < k) : i * k + f < n * k := by
  have h : (i + 1) * k ≤ n * k := Nat.mul_le_mul_right k hi
  rw [Nat.add_mul] at h
  omega

theorem place_inj {i i' f f' k : Nat} (hf : f < k) (hf' : f' < k) (h : i * k + f = i' * k + f') : i = i' ∧ f = f' := by
  have hk : 0 < k := by omega
  have h1 : (i * k + f) / k = i := by rw [Nat.mul_comm, Nat.mul_add_div hk, Nat.div_eq_of_lt hf]; omega
  have h2 : (i' * k + f') / k = i' := by rw [Nat.mul_comm, Nat.mul_add_div hk, Nat.div_eq_of_lt hf']; omega
  have e : i = i' := by rw [← h1, ← h2, h]
  subst e
  exact ⟨rfl, by omega⟩

theorem RowI.cell {w : World} {B k g n cap i f : Nat} {e : TypeId} {F : Nat → Nat → Int} (h : RowI w B e k g n cap F) (hi : i < n) (hf : f < k) : w.cell? ⟨g, i * k + f, none⟩ = some (.int .i64 (F i f)) := by
  obtain ⟨xs, h1, h2⟩ := h
  exact (h1.cellAt _ (in_row hi hf)).trans (h2 i hi f hf)

theorem RowI.frozen {w : World} {B k g n cap : Nat} {e : TypeId} {F : Nat → Nat → Int} (h : RowI w B e k g n cap F) (j : Nat) : w.frozen? ⟨g, j, none⟩ = false := by
  obtain ⟨xs, h1, _⟩ := h
  exact h1.frozenAt j

theorem RowI.lt {w : World} {B k g n cap : Nat} {e : TypeId} {F : Nat → Nat → Int} (h : RowI w B e k g n cap F) : B ≤ g ∧ g < w.heap.size := by
  obtain ⟨xs, h1, _⟩ := h
  exact h1.lt g rfl

theorem RowI.kept {w w' : World} {B k g n cap : Nat} {e : TypeId} {F : Nat → Nat → Int} {row : Option Nat} (h : RowI w B e k g n cap F) (hg : w.grownBy w' row) (hne : some g ≠ row) : RowI w' B e k g n cap F := by
  obtain ⟨xs, h1, h2⟩ := h
  exact ⟨xs, h1.kept hg (.inr hne), h2⟩

theorem RowI.at_ {w w' : World} {B k g n cap : Nat} {e : TypeId} {F : Nat → Nat → Int} (h : RowI w B e k g n cap F) (hb : w'.heap[g]? = w.heap[g]?) : RowI w' B e k g n cap F := by
  obtain ⟨xs, ⟨h1, h3⟩, h2⟩ := h
  refine ⟨xs, ⟨h1, ?_⟩, h2⟩
  rcases h3 with ⟨h', _⟩ | ⟨g0, cap0, cur, h', r⟩
  · simp at h'
  · have h'' := h'
    simp only [Value.slice.injEq, Option.some.injEq, Addr.mk.injEq, and_true, true_and] at h''
    obtain ⟨rfl, rfl⟩ := h''
    exact .inr ⟨g, cap, cur, rfl, r.1, hb.trans r.2.1, r.2.2⟩

theorem RowI.eq {w : World} {B k g n cap : Nat} {e : TypeId} {F F' : Nat → Nat → Int} (h : RowI w B e k g n cap F) (hF : ∀ i, i < n → ∀ f, f < k → F i f = F' i f) : RowI w B e k g n cap F' := by
  obtain ⟨xs, h1, h2⟩ := h
  exact ⟨xs, h1, fun i hi f hf => by rw [← hF i hi f hf]; exact h2 i hi f hf⟩

theorem grown_refl (w : World) (row : Option Nat) : w.grownBy w row := ⟨rfl, rfl, rfl, Nat.le_refl _, fun _ _ _ => rfl⟩
theorem grown_trans {w w1 w2 : World} {row : Option Nat} (h : w.grownBy w1 row) (k : w1.grownBy w2 row) : w.grownBy w2 row :=
  ⟨k.os.trans h.os, k.tape.trans h.tape, k.output.trans h.output, Nat.le_trans h.size k.size, fun i hi hr => (k.block i (Nat.lt_of_lt_of_le hi h.size) hr).trans (h.block i hi hr)⟩

/-- One field is written. -/
theorem RowI.set {w : World} {B k g n cap i f : Nat} {e : TypeId} {F : Nat → Nat → Int} (h : RowI w B e k g n cap F) (hi : i < n) (hf : f < k) (v : Int) :
    RowI (w.setCell ⟨g, i * k + f, none⟩ (.int .i64 v)) B e k g n cap (fun i' f' => if i' = i ∧ f' = f then v else F i' f') ∧ w.grownBy (w.setCell ⟨g, i * k + f, none⟩ (.int .i64 v)) (some g) := by
  obtain ⟨xs, h1, h2⟩ := h
  obtain ⟨h3, h4⟩ := h1.stored (i * k + f) (.int .i64 v)
  refine ⟨⟨_, h3, fun i' hi' f' hf' => ?_⟩, h4⟩
  have hl := h1.1
  by_cases e1 : i' = i ∧ f' = f
  · obtain ⟨rfl, rfl⟩ := e1
    rw [List.getElem?_set_self (by rw [hl]; exact in_row hi' hf')]
    simp
  · rw [List.getElem?_set_ne (fun e2 => e1 (by have := place_inj hf hf' e2; exact ⟨this.1.symm, this.2.symm⟩)), h2 i' hi' f' hf']
    exact congrArg (fun x => some (Value.int .i64 x)) (if_neg e1).symm

theorem madeCells_get (z : Array Value) (m j : Nat) (hz : 0 < z.size) (hj : j < m) (h0 : ∀ x ∈ z.toList, x = .int .i64 0) : (madeCells z m).toList[j]? = some (.int .i64 0) := by
  have hlt : j % z.size < z.size := Nat.mod_lt _ hz
  simp only [madeCells, Array.toList_map, Array.toList_range, List.getElem?_map, List.getElem?_range hj, Option.map_some]
  rw [getElem!_pos z (j % z.size) hlt]
  exact congrArg some (h0 _ (Array.getElem_mem_toList _))

theorem zeroCells_get (z : Array Value) (m j : Nat) (hz : 0 < z.size) (hj : j < m * z.size) (h0 : ∀ x ∈ z.toList, x = .int .i64 0) : (Builtin.zeroCells z m).toList[j]? = some (.int .i64 0) := by
  have hlt : j % z.size < z.size := Nat.mod_lt _ hz
  simp only [Builtin.zeroCells, Array.toList_map, Array.toList_range, List.getElem?_map, List.getElem?_range hj, Option.map_some]
  rw [getElem!_pos z (j % z.size) hlt]
  exact congrArg some (h0 _ (Array.getElem_mem_toList _))

/-- The row of a 'make'. -/
theorem RowI.made {w : World} {B k g n cap : Nat} {e : TypeId} {z : Array Value} (h : w.ownsRow B e k (.slice (some ⟨g, 0, none⟩) n cap) n (madeCells z (n * k)).toList) (hk : z.size = k) (h0 : ∀ x ∈ z.toList, x = .int .i64 0) : RowI w B e k g n cap (fun _ _ => 0) :=
  ⟨_, h, fun i hi f hf => madeCells_get z _ _ (by omega) (in_row hi hf) h0⟩

/-- 'append(s, make([]T, m)...)'. -/
theorem RowI.zeros {w : World} {B k g n cap m : Nat} {e : TypeId} {F : Nat → Nat → Int} {t : TypeId} {i : TypeInfo} {z : Value} {bytes : Nat} (h : RowI w B e k g n cap F) (ht : Try.prog.underlying t = some (.slice e)) (hi : Try.prog.info? e = some i) (hz : i.zero = some z)
    (hsize : i.size = k) (hby : i.bytes = bytes) (hzs : z.cells.size = k) (hk : 0 < k) (h0 : ∀ x ∈ z.cells.toList, x = .int .i64 0) (ty : TypeId) (hm : 0 < m) (h63 : n + m ≤ maxLen) (hbytes : (n + m) * bytes ≤ 140737488355328) (hB : B ≤ w.heap.size) :
    ∃ g' cap' w', (Builtin.append_ #[t, 3] ty #[.slice (some ⟨g, 0, none⟩) n cap, .int .i64 (m : Int)]).run Try.prog w = .ok (.slice (some ⟨g', 0, none⟩) (n + m) cap') w' ∧
      RowI w' B e k g' (n + m) cap' (fun i f => if i < n then F i f else 0) ∧ w.grownBy w' (some g) ∧ (g' = g ∨ g' = w.heap.size) := by
  obtain ⟨xs, h1, h2⟩ := h
  obtain ⟨g', cap', w', hr, h3, h4, h5⟩ := run_append_zeros w B t 3 ty e i z k bytes ht Try.underlying3 hi hz hsize hby hzs hk (fun u hu => by rw [h0 u hu]; rfl) g n cap xs h1 m hm h63 hbytes hB
  refine ⟨g', cap', w', hr, ⟨_, h3, fun j hj f hf => ?_⟩, h4, h5⟩
  have hl := h1.1
  by_cases e1 : j < n
  · rw [List.getElem?_append_left (by rw [hl]; exact in_row e1 hf), h2 j e1 f hf]
    exact congrArg (fun x => some (Value.int .i64 x)) (if_pos e1).symm
  · have hge : n * k ≤ j * k := Nat.mul_le_mul_right k (by omega)
    rw [List.getElem?_append_right (by rw [hl]; omega), hl, zeroCells_get _ _ _ (by omega) (by rw [hzs]; have := in_row hj hf; rw [Nat.add_mul] at this; omega) h0]
    exact congrArg (fun x => some (Value.int .i64 x)) (if_neg e1).symm

/-- 'append(s, x)', x a struct of k ints that lies at a. -/
theorem RowI.one {w : World} {B k g n cap : Nat} {e : TypeId} {F : Nat → Nat → Int} {t : TypeId} {i : TypeInfo} {z : Value} {bytes : Nat} (h : RowI w B e k g n cap F) (ht : Try.prog.underlying t = some (.slice e)) (hi : Try.prog.info? e = some i) (hz : i.zero = some z)
    (hsize : i.size = k) (hby : i.bytes = bytes) (hzs : z.cells.size = k) (hk : 0 < k) (ty : TypeId) (a : Addr) (V : Nat → Int) (hV : ∀ j, j < k → w.cell? (a.add j) = some (.int .i64 (V j))) (h63 : n + 1 ≤ maxLen) (hbytes : (n + 1) * bytes ≤ 140737488355328) (hB : B ≤ w.heap.size) :
    ∃ g' cap' w', (Builtin.append_ #[t, t] ty #[.slice (some ⟨g, 0, none⟩) n cap, .slice (some a) 1 1]).run Try.prog w = .ok (.slice (some ⟨g', 0, none⟩) (n + 1) cap') w' ∧
      RowI w' B e k g' (n + 1) cap' (fun i f => if i < n then F i f else V f) ∧ w.grownBy w' (some g) ∧ (g' = g ∨ w.heap.size ≤ g') := by
  obtain ⟨xs, h1, h2⟩ := h
  have hl := h1.1
  have hlen : ((List.range k).map fun j => Value.int .i64 (V j)).length = 1 * k := by simp
  have hnews : ∀ j u, ((List.range k).map fun j => Value.int .i64 (V j))[j]? = some u → w.cell? (a.add j) = some u := fun j u hu => by
    rw [List.getElem?_map] at hu
    obtain ⟨j', hj', rfl⟩ := Option.map_eq_some_iff.1 hu
    rw [List.getElem?_eq_some_iff] at hj'
    obtain ⟨hj1, hj2⟩ := hj'
    simp only [List.length_range] at hj1
    simp only [List.getElem_range] at hj2
    subst hj2
    exact hV j hj1
  have hone : ∀ u ∈ ((List.range k).map fun j => Value.int .i64 (V j)), u.oneCell' = true := fun u hu => by
    obtain ⟨j, _, rfl⟩ := List.mem_map.1 hu
    rfl
  obtain ⟨v', w', hr, h3, h4, h5⟩ := run_append_own w B t ty e i z k bytes ht hi hz hsize hby hzs hk _ n xs h1 a 1 1 _ hlen hnews hone h63 hbytes hB
  rcases h3.2 with ⟨hn, _⟩ | ⟨g', cap', cur, rfl, r⟩
  · exact absurd (h5.1 hn).1 (by simp)
  · refine ⟨g', cap', w', hr, ⟨_, h3, fun j hj f hf => ?_⟩, h4, ?_⟩
    · by_cases e1 : j < n
      · rw [List.getElem?_append_left (by rw [hl]; exact in_row e1 hf), h2 j e1 f hf]
        exact congrArg (fun x => some (Value.int .i64 x)) (if_pos e1).symm
      · obtain rfl : j = n := by omega
        rw [List.getElem?_append_right (by rw [hl]; omega), hl, Nat.add_sub_cancel_left, List.getElem?_map, List.getElem?_range hf]
        exact congrArg (fun x => some (Value.int .i64 x)) (if_neg e1).symm
    · subst hsize
      subst hby
      by_cases hroom : n + 1 ≤ cap
      · rcases h1.2 with ⟨h', _⟩ | ⟨g0, cap0, cur0, h', hbg, hg, hnc, hcm, hcs, htake⟩
        · simp at h'
        simp only [Value.slice.injEq, Option.some.injEq, Addr.mk.injEq, and_true, true_and] at h'
        obtain ⟨rfl, rfl⟩ := h'
        have hr2 := run_append_room w t ty e i ht hi g n cap cur0 hg a 1 1 _ hlen hnews hone hroom (by rw [hlen, hcs, ← Nat.add_mul]; exact Nat.mul_le_mul_right _ hroom)
        rw [hr] at hr2
        simp only [Result.ok.injEq, Value.slice.injEq, Option.some.injEq, Addr.mk.injEq] at hr2
        exact .inl hr2.1.1.1
      · have hfit := growslice_fits (need := n + 1) (old := cap) (bytes := i.bytes) (by omega) hbytes
        have hr2 := run_append_grow w t ty e i z ht hi hz ⟨g, 0, none⟩ n cap xs hl (h1.cells (g := g) rfl) a 1 1 _ hlen hnews (by omega) (by unfold maxLen at h63; omega) hfit
        rw [hr] at hr2
        simp only [Result.ok.injEq, Value.slice.injEq, Option.some.injEq, Addr.mk.injEq] at hr2
        exact .inr (by rw [hr2.1.1.1]; exact Nat.le_refl _)

end Go.Proofs.Qxb6623390a
