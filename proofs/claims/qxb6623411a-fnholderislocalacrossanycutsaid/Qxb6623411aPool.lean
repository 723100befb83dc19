/-
  Contracts of holderBorders (8) and holderServerFor (5); the pool of servers by id.
-/
import Derived.Test.Qxb6623411aPtrs
import Derived.Maps.OwnOps
namespace Go.Proofs.Qxb6623411a
open Go.RowKit
open Go.Maps (Keyed int_keyed keyOf_int_mk)

set_option maxRecDepth 100000 in
set_option maxHeartbeats 400000 in
theorem borders_any (B : Nat) (a : Option Addr) (n c gb go k : Nat) (p : Nat → Option Addr) (w : World) (hn : n ≤ 4096) (h2 : 2 ≤ n) (hk : k < n) (hp : PtrsIn B w a n gb go p) (v : Option Addr) (hv : v = hold p n (some k)) :
    Calls Try.prog 8 #[.slice a n c, .int .i64 k, .pointer v] w (ValIs (.bool true) w) := by
  have hvo : PtrOk B w v := by
    rw [hv]
    by_cases e : k + 1 = n
    · rw [hold_last p n k (by omega) e]; exact hp.ok _ (by omega)
    · rw [hold_mid p n k (by omega) e]; exact hp.ok _ (by omega)
  obtain rfl := hp.addr (by omega)
  by_cases h0 : 0 < k
  · have h0' : (0 : Int) < (k : Int) := by omega
    have c0 := hp.cell (k - 1) (by omega)
    have hj0 : ¬ (k : Int) - 1 < 0 := by omega
    have hj1 : (k : Int) - 1 < n := by omega
    by_cases e : p (k - 1) = v
    · have he : (binOp .eql 28 (.pointer (p (k - 1))) (.pointer v)).run Try.prog w = .ok (.bool true) w := by
        rw [ptr_eql (hp.ok _ (by omega)) hvo]; simp [e]
      clear hp hvo hv e
      go_enter Try.func8, Try.ntmps8
      go_wp2
      go_ret
      exact ⟨rfl, rfl⟩
    · have he : (binOp .eql 28 (.pointer (p (k - 1))) (.pointer v)).run Try.prog w = .ok (.bool false) w := by
        rw [ptr_eql (hp.ok _ (by omega)) hvo]; simp [e]
      have hlt : k + 1 < n := by
        by_cases e1 : k + 1 = n
        · rw [hold_last p n k (by omega) e1] at hv; exact absurd hv.symm e
        · omega
      rw [hold_mid p n k (by omega) (by omega)] at hv
      have c1 := hp.cell (k + 1) hlt
      have hlt' : (k : Int) + 1 < n := by omega
      have he1 : (binOp .eql 28 (.pointer (p (k + 1))) (.pointer v)).run Try.prog w = .ok (.bool true) w := by
        rw [ptr_eql (hp.ok _ hlt) hvo]; simp [hv]
      clear hp hvo hv e
      go_enter Try.func8, Try.ntmps8
      go_wp2
      go_ret
      exact ⟨rfl, rfl⟩
  · have h0' : ¬ (0 : Int) < (k : Int) := by omega
    have hlt : k + 1 < n := by omega
    rw [hold_mid p n k (by omega) (by omega)] at hv
    have c1 := hp.cell (k + 1) hlt
    have hlt' : (k : Int) + 1 < n := by omega
    have he1 : (binOp .eql 28 (.pointer (p (k + 1))) (.pointer v)).run Try.prog w = .ok (.bool true) w := by
      rw [ptr_eql (hp.ok _ hlt) hvo]; simp [hv]
    clear hp hvo hv
    go_enter Try.func8, Try.ntmps8
    go_wp2
    go_ret
    exact ⟨rfl, rfl⟩

theorem law3 : Keyed Try.prog 3 := int_keyed Try.underlying3
theorem zero28 (w : World) : (zeroValue 28).run Try.prog w = .ok (.pointer none) w := by kernel_rfl

/-- How a pointer reads, as a map's element: as itself. -/
def Rp (v : Value) : Option (DataW Value × List MemPlace) :=
  match v with
  | .pointer p => some (.held (.pointer p), [])
  | _ => none

theorem Rp_inv {v : Value} {y : DataW Value × List MemPlace} (h : Rp v = some y) : ∃ p, v = .pointer p ∧ y.1 = .held (.pointer p) := by
  cases v <;> simp [Rp] at h
  subst h
  exact ⟨_, rfl, rfl⟩

/-- Block b is a map[int]*Server whose pointers may be compared. -/
def PtrMap (B : Nat) (w : World) (b m : Nat) : Prop :=
  ∃ D : DataW Value, w.ownsMap Try.prog 3 Rp b m D ∧ ∀ l p, D.atKey l .nil = .held (.pointer p) → PtrOk B w p

theorem PtrMap.made (B : Nat) (w : World) : PtrMap B (w.alloc (.map #[] 0)) w.heap.size 0 :=
  ⟨.map [], World.ownsMap_made w _ _ _, fun l p h => by simp [DataW.atKey] at h⟩

theorem PtrMap.kept {B : Nat} {w w' : World} {b m : Nat} {row : Option Nat} (h : PtrMap B w b m) (hg : w.grownBy w' row) (hne : some b ≠ row) (hr : ∀ k, row = some k → k < B) : PtrMap B w' b m := by
  obtain ⟨D, h1, h2⟩ := h
  exact ⟨D, h1.kept hg hne, fun l p hp => (h2 l p hp).grown hg hr⟩

theorem PtrMap.look {B : Nat} {w : World} {b m : Nat} (h : PtrMap B w b m) {x : Int} (hx : (Lit.int .i64 x).wf = true) :
    (∃ p, (Instr.lookup 26 (.map (some b)) (.int .i64 x) true).run Try.prog w = .ok (.tuple #[.pointer p, .bool true]) w ∧ PtrOk B w p) ∨
    (Instr.lookup 26 (.map (some b)) (.int .i64 x) true).run Try.prog w = .ok (.tuple #[.pointer none, .bool false]) w := by
  obtain ⟨D, ⟨es, clock, hb, F, _, rfl⟩, h2⟩ := h
  rcases Go.Maps.fit_look true law3 Try.underlying26 (zero28 w) hb F (keyOf_int_mk Try.underlying3 hx) with ⟨hrun, _, _⟩ | ⟨e0, y, _, _, hrun, hRv, hat, _⟩
  · exact .inr hrun
  · obtain ⟨p, e1, e2⟩ := Rp_inv hRv
    rw [e1] at hrun
    exact .inl ⟨p, hrun, h2 _ p ((hat .nil).trans e2)⟩

theorem PtrMap.store {B : Nat} {w : World} {b m : Nat} (h : PtrMap B w b m) (hm : m < maxLen) (hbB : b < B) {x : Int} (hx : (Lit.int .i64 x).wf = true) {p : Option Addr} (hp : PtrOk B w p) :
    ∃ w', (Instr.mapUpdate 26 (.map (some b)) (.int .i64 x) (.pointer p)).run Try.prog w = .ok () w' ∧ PtrMap B w' b (m + 1) ∧ w.grownBy w' (some b) := by
  obtain ⟨D, h1, h2⟩ := h
  have hk := keyOf_int_mk Try.underlying3 hx
  obtain ⟨w', hrun, h4, h5⟩ := h1.update (val := .pointer p) (d := .held (.pointer p)) (ps := []) law3 Try.underlying26 hm hk rfl
  refine ⟨w', hrun, ⟨_, h4, fun l q hq => ?_⟩, h5⟩
  have hr : ∀ k, some b = some k → k < B := fun k e => by cases e; exact hbB
  by_cases e : l = .int .i64 x
  · subst e
    rw [Maps.atKey_put_same h1.isMap (law3.key hk)] at hq
    simp only [DataW.held.injEq, Value.pointer.injEq] at hq
    rw [← hq]
    exact hp.grown h5 hr
  · rw [Maps.atKey_put_other e] at hq
    exact (h2 l q hq).grown h5 hr

/-- A server of the pool comes back. -/
def PoolRet (B b m : Nat) (w : World) (e : Ending) (w' : World) : Prop := ∃ p, e = .returned (.pointer p) ∧ PtrMap B w' b (m + 1) ∧ PtrOk B w' p ∧ w.grownBy w' (some b)

theorem grown_refl (w : World) (row : Option Nat) : w.grownBy w row := ⟨rfl, rfl, rfl, Nat.le_refl _, fun _ _ _ => rfl⟩
theorem grown_trans {w w1 w2 : World} {row : Option Nat} (h : w.grownBy w1 row) (k : w1.grownBy w2 row) : w.grownBy w2 row :=
  ⟨k.os.trans h.os, k.tape.trans h.tape, k.output.trans h.output, Nat.le_trans h.size k.size, fun i hi hr => (k.block i (Nat.lt_of_lt_of_le hi h.size) hr).trans (h.block i hi hr)⟩

theorem PtrMap.mono {B : Nat} {w : World} {b m : Nat} (h : PtrMap B w b m) : PtrMap B w b (m + 1) := by
  obtain ⟨D, h1, h2⟩ := h
  exact ⟨D, h1.mono (Nat.le_succ _), h2⟩

def srv0 : Array Value := #[.string ⟨#[]⟩, .string ⟨#[]⟩, .slice none 0 0, .slice none 0 0, .slice none 0 0, .int .i64 0, .string ⟨#[]⟩, .bool false]
theorem build41 (w : World) : (Instr.build 41 #[]).run Try.prog w = .ok (.agg srv0) w := run_build w 41 #[] srv0 (by kernel_rfl)

set_option maxRecDepth 100000 in
set_option maxHeartbeats 400000 in
theorem serverFor_any (B b m : Nat) (x : Int) (w : World) (hm : m < 4097) (hx : (Lit.int .i64 x).wf = true) (hbB : b < B) (hB : B ≤ w.heap.size) (hM : PtrMap B w b m) :
    Calls Try.prog 5 #[.map (some b), .int .i64 x] w (PoolRet B b m w) := by
  by_cases h0 : x < 0
  · have HM := (show Hid _ from hM.mono)
    clear hM
    go_enter Try.func5, Try.ntmps5
    go_wp2
    go_ret
    exact ⟨none, rfl, HM.out, PtrOk.nil _ _, grown_refl _ _⟩
  · rcases hM.look hx with ⟨p, hl, hp⟩ | hl
    · have HM := (show Hid _ from hM.mono)
      have HP := (show Hid _ from hp)
      clear hM hp
      go_enter Try.func5, Try.ntmps5
      go_wp2
      go_ret
      exact ⟨p, rfl, HM.out, HP.out, grown_refl _ _⟩
    · have hg0 := World.grownBy_alloc w (.cells srv0 41) none
      have hM1 := hM.kept hg0 (by simp) (fun k h => by cases h)
      have hp1 : PtrOk B (w.alloc (.cells srv0 41)) (some ⟨w.heap.size, 0, none⟩) := fun a ha => by
        cases ha
        exact ⟨hB, srv0, 41, heap_alloc_new w _⟩
      obtain ⟨w2, hu, hM2, hg2⟩ := hM1.store (by unfold maxLen; omega) hbB hx hp1
      have HM := (show Hid _ from hM2)
      have HP : Hid (PtrOk B w2 (some ⟨w.heap.size, 0, none⟩)) := hp1.grown hg2 (fun k e => by cases e; exact hbB)
      have HG : Hid (w.grownBy w2 (some b)) := grown_trans (World.grownBy_alloc w (.cells srv0 41) (some b)) hg2
      unfold srv0 at hu
      clear hM hM1 hM2 hp1 hg0 hg2
      go_enter Try.func5, Try.ntmps5
      go_wp2
      go_ret
      exact ⟨_, rfl, HM.out, HP.out, HG.out⟩

end Go.Proofs.Qxb6623411a
