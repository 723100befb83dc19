/-
  'append(s, make([]T, m)...)': a row of the call's own grows by m zero elements.
-/
import Derived.Test.Qxb6623390aProg
import Derived.WalkKit
import Derived.WalkSpells
import Derived.WalkLawsBesides
import Derived.Laws.OwnMore
namespace Go.Proofs.Qxb6623390a
open Go.RowKit

section
variable {P : Program} (w : World)

theorem zeroCells_one (z : Array Value) (h1 : ∀ u ∈ z.toList, u.oneCell' = true) (m : Nat) : ∀ u ∈ (Builtin.zeroCells z m).toList, u.oneCell' = true := by
  intro u hu
  simp only [Builtin.zeroCells, Array.toList_map, List.mem_map] at hu
  obtain ⟨k, hk, rfl⟩ := hu
  have hk' : k < m * z.size := by simpa using hk
  have hz : 0 < z.size := by
    rcases Nat.eq_zero_or_pos z.size with e | e
    · rw [e, Nat.mul_zero] at hk'; omega
    · exact e
  have hlt : k % z.size < z.size := Nat.mod_lt _ hz
  rw [getElem!_pos z (k % z.size) hlt]
  exact h1 _ (Array.getElem_mem_toList _)

theorem run_append_zeros (base : Nat) (t it ty e : TypeId) (i : TypeInfo) (z : Value) (size bytes : Nat) (ht : P.underlying t = some (.slice e)) (hit : P.underlying it = some (.int .i64)) (hi : P.info? e = some i) (hz : i.zero = some z)
    (hsize : i.size = size) (hby : i.bytes = bytes) (hzs : z.cells.size = size) (hsz : 0 < size) (hz1 : ∀ u ∈ z.cells.toList, u.oneCell' = true)
    (g n cap : Nat) (xs : List Value) (hown : w.ownsRow base e size (.slice (some ⟨g, 0, none⟩) n cap) n xs)
    (m : Nat) (hm : 0 < m) (h63 : n + m ≤ maxLen) (hbytes : (n + m) * bytes ≤ 140737488355328) (hbase : base ≤ w.heap.size) :
    ∃ g' cap' w', (Builtin.append_ #[t, it] ty #[.slice (some ⟨g, 0, none⟩) n cap, .int .i64 (m : Int)]).run P w = .ok (.slice (some ⟨g', 0, none⟩) (n + m) cap') w' ∧
      w'.ownsRow base e size (.slice (some ⟨g', 0, none⟩) (n + m) cap') (n + m) (xs ++ (Builtin.zeroCells z.cells m).toList) ∧ w.grownBy w' (some g) ∧ (g' = g ∨ g' = w.heap.size) := by
  subst hsize
  subst hby
  have hsmall : n + m ≤ 9223372036854775807 := by simp only [maxLen] at h63; omega
  have hlz : (Builtin.zeroCells z.cells m).toList.length = m * i.size := by rw [Array.length_toList, size_zeroCells, hzs]
  have hlen : (xs ++ (Builtin.zeroCells z.cells m).toList).length = (n + m) * i.size := by rw [List.length_append, hown.1, hlz, Nat.add_mul]
  have hone := zeroCells_one z.cells hz1 m
  have hwrap : IntKind.i64.wrap (m : Int) = (m : Int) := by
    have : (m : Int) ≤ 9223372036854775807 := by omega
    simp [IntKind.wrap, IntKind.signed, IntKind.bits]
    omega
  have hm0 : ¬ ((m : Int) < 0) := by omega
  have hmb : m * i.bytes ≤ 140737488355328 := Nat.le_trans (Nat.mul_le_mul_right _ (by omega)) hbytes
  have hmb' : ¬ ((281474976710656 : Int) < (m : Int) * (i.bytes : Int)) := by
    rw [← Int.natCast_mul]; omega
  have hms : ¬ (m * i.size = 0) := by
    have := Nat.mul_pos hm hsz
    omega
  rcases hown.2 with ⟨h', _⟩ | ⟨g0, cap0, cur, h', hbg, hg, hnc, hcm, hcs, htake⟩
  · simp at h'
  simp only [Value.slice.injEq, Option.some.injEq, Addr.mk.injEq, and_true, true_and] at h'
  obtain ⟨rfl, rfl⟩ := h'
  by_cases hroom : n + m ≤ cap
  · have hfit : n * i.size + (Builtin.zeroCells z.cells m).toList.length ≤ cur.size := by rw [hlz, hcs, ← Nat.add_mul]; exact Nat.mul_le_mul_right _ hroom
    have hst := run_storeCells_at P g (n * i.size) e (Builtin.zeroCells z.cells m).toList 0 cur w hg (by simpa using hfit) hone
    simp only [Nat.add_zero] at hst
    refine ⟨g, cap, w.setRow g (cur.toList.take (n * i.size) ++ (Builtin.zeroCells z.cells m).toList ++ cur.toList.drop (n * i.size + (Builtin.zeroCells z.cells m).toList.length)).toArray, by simp [Builtin.append_, asInt, asIntOf, run_underlying ht, run_underlying hit, sizeOf, typeInfo, hi, zeroValue, hz, hwrap, hm0, hmb', hroom, Addr.add_lit, hst, hms], ⟨hlen, .inr ⟨g, cap, _, rfl, hbg, setRow_heap w g cur _ e _ hg, hroom, hcm, ?_, ?_⟩⟩, ⟨rfl, rfl, rfl, by simp, fun k _ hk => setRow_other w g k _ (fun e => hk (by simp [e]))⟩, .inl rfl⟩
    · simp only [List.size_toArray, List.length_append, List.length_take, List.length_drop, Array.length_toList] at hfit ⊢
      omega
    · rw [htake, ← hlen]
      exact List.take_left
  · have holds : ∀ j u, xs[j]? = some u → w.cell? ((⟨g, 0, none⟩ : Addr).add j) = some u := hown.cells (g := g) rfl
    have hge := grownCap_ge w (n + m) cap e
    have hcm' : grownCap w (n + m) cap e ≤ maxLen := grownCap_le_maxLen w (n + m) cap e h63
    have hn' : ¬ (n + m ≤ cap) := hroom
    have h63' : ¬ (9223372036854775807 < ((n : Int) + (m : Int))) := by omega
    have hfit := growslice_fits (need := n + m) (old := cap) (bytes := i.bytes) (by omega) hbytes
    have h48' : ¬ (281474976710656 < Builtin.nextslicecap (n + m) cap * i.bytes) := by omega
    have hfo := run_firstCells_some (P := P) w.drew i.size n ⟨g, 0, none⟩ n cap xs hown.1 (by simpa using holds)
    refine ⟨w.heap.size, grownCap w (n + m) cap e, w.drew.alloc (.cells (xs.toArray ++ Builtin.zeroCells z.cells m ++ Builtin.zeroCells z.cells (grownCap w (n + m) cap e - (n + m))) e), ?_, ⟨hlen, .inr ⟨w.heap.size, _, _, rfl, hbase, heap_alloc_new w.drew _, hge, hcm', ?_, ?_⟩⟩, ⟨rfl, rfl, rfl, by simp, fun k hk _ => heap_alloc_old w.drew _ hk⟩, .inr rfl⟩
    · simp [Builtin.append_, asInt, asIntOf, run_underlying ht, run_underlying hit, sizeOf, typeInfo, zeroValue, hi, hz, hwrap, hm0, hmb', hn', h63', h48', Question.forced, hfo, newRow, grownCap, hms]
    · simp only [Array.size_append, List.size_toArray, size_zeroCells, hzs, hown.1, ← Nat.add_mul]
      congr 1
      omega
    · simp only [Array.toList_append, List.append_assoc]
      rw [← List.append_assoc, ← hlen]
      exact List.take_left

end
end Go.Proofs.Qxb6623390a
