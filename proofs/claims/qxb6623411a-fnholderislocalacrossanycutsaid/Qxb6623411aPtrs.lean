/-
  Pointers that may be compared; contracts of slices.Index (9), holderFirstAt (7), holderBorders (8), Record.Holder (6).
-/
import Derived.Test.Qxb6623411aProg
import Derived.WalkKit
import Derived.WalkSpells
import Derived.WalkLawsBesides
import Derived.LaidEqlPtr
namespace Go.Proofs.Qxb6623411a
open Go.RowKit

theorem Try.info41 : (Try.prog.info? 41).map (fun i => (i.size == 0)) = some false := by kernel_rfl

/-- A pointer that may be compared: nil, or into a block from B on that nothing freezes. -/
def PtrOk (B : Nat) (w : World) (p : Option Addr) : Prop := ∀ a, p = some a → B ≤ a.block ∧ ∃ cs t, w.heap[a.block]? = some (.cells cs t (0, 0))

theorem PtrOk.nil (B : Nat) (w : World) : PtrOk B w none := fun a h => by cases h

theorem PtrOk.grown {B : Nat} {w w' : World} {p : Option Addr} {row : Option Nat} (h : PtrOk B w p) (hg : w.grownBy w' row) (hr : ∀ k, row = some k → k < B) : PtrOk B w' p := fun a ha => by
  obtain ⟨h1, cs, t, h2⟩ := h a ha
  refine ⟨h1, cs, t, ?_⟩
  rw [hg.block a.block (Array.getElem?_eq_some_iff.1 h2).1 (fun e => by have := hr a.block e.symm; omega)]
  exact h2

theorem PtrOk.later {B C : Nat} {w w' : World} {p : Option Addr} (h : PtrOk B w p) (hb : Below C w w') (hC : w.heap.size ≤ C) : PtrOk B w' p := fun a ha => by
  obtain ⟨h1, cs, t, h2⟩ := h a ha
  refine ⟨h1, cs, t, ?_⟩
  rw [hb.block a.block (Nat.lt_of_lt_of_le (Array.getElem?_eq_some_iff.1 h2).1 hC)]
  exact h2

theorem nil_eql (w : World) (p : Option Addr) : (binOp .eql 28 (.pointer none) (.pointer p)).run Try.prog w = .ok (.bool p.isNone) w := by
  simp only [binOp]
  have h : ∀ d : Nat, (Op.equalIn (d + 1) 28 (.pointer none) (.pointer p)).run Try.prog w = .ok p.isNone w := fun d => by
    cases p <;> simp [Op.equalIn, run_underlying Try.underlying28]
  simp [Op.equal, Op.maxDepth, h 9999]

/-- '==' of two such pointers. -/
theorem ptr_eql {B : Nat} {w : World} {p q : Option Addr} (hp : PtrOk B w p) (hq : PtrOk B w q) : (binOp .eql 28 (.pointer p) (.pointer q)).run Try.prog w = .ok (.bool (decide (p = q))) w := by
  obtain ⟨j, hj, hz⟩ := Option.map_eq_some_iff.1 Try.info41
  cases p with
  | none => rw [nil_eql]; cases q <;> simp
  | some a =>
    cases q with
    | none => rw [run_eql_pointer_nil w 28 (some a) (by kernel_rfl)]; simp
    | some b =>
      by_cases e : a = b
      · subst e
        rw [run_eql_ptr_same w a Try.underlying28 hj]; simp
      · obtain ⟨_, ca, ta, ha⟩ := hp a rfl
        obtain ⟨_, cb, tb, hb⟩ := hq b rfl
        rw [run_eql_ptr_other w Try.underlying28 hj (by simpa using hz) e ha hb]
        simp [e]

/-- A []*Server as the walks are told of it. -/
structure PtrsIn (B : Nat) (w : World) (a : Option Addr) (n gb go : Nat) (p : Nat → Option Addr) : Prop where
  addr : 0 < n → a = some ⟨gb, go, none⟩
  cell : ∀ i, i < n → w.cell? ⟨gb, go + i, none⟩ = some (.pointer (p i))
  ok : ∀ i, i < n → PtrOk B w (p i)

theorem PtrsIn.later {B C : Nat} {w w' : World} {a : Option Addr} {n gb go : Nat} {p : Nat → Option Addr} (h : PtrsIn B w a n gb go p) (hb : Below C w w') (hC : w.heap.size ≤ C) : PtrsIn B w' a n gb go p :=
  ⟨h.addr, fun i hi => (hb.cell (p := ⟨gb, go + i, none⟩) (Nat.lt_of_lt_of_le (World.block_lt_of_cell? _ _ (h.cell i hi)) hC)).trans (h.cell i hi), fun i hi => (h.ok i hi).later hb hC⟩

/-- The first place of q among the first n. -/
def First (p : Nat → Option Addr) (q : Option Addr) (n : Nat) : Option Nat → Prop
  | none => ∀ j, j < n → p j ≠ q
  | some k => k < n ∧ p k = q ∧ ∀ j, j < k → p j ≠ q

theorem First.ex (p : Nat → Option Addr) (q : Option Addr) : ∀ n, ∃ o, First p q n o
  | 0 => ⟨none, fun j hj => absurd hj (Nat.not_lt_zero _)⟩
  | n + 1 => by
    obtain ⟨o, ho⟩ := First.ex p q n
    cases o with
    | some k => exact ⟨some k, Nat.lt_succ_of_lt ho.1, ho.2⟩
    | none =>
      by_cases e : p n = q
      · exact ⟨some n, Nat.lt_succ_self _, e, ho⟩
      · refine ⟨none, fun j hj => ?_⟩
        by_cases e' : j = n
        · subst e'; exact e
        · exact ho j (by omega)

def retI : Option Nat → Int
  | none => -1
  | some k => k

/-- A value comes back; the world is as it was. -/
def ValIs (v : Value) (w : World) (e : Ending) (w' : World) : Prop := e = .returned v ∧ w = w'

set_option maxRecDepth 100000 in
set_option maxHeartbeats 400000 in
theorem index_any (B : Nat) (a : Option Addr) (n c gb go : Nat) (p : Nat → Option Addr) (q : Option Addr) (o : Option Nat) (w : World) (hn : n ≤ 4096) (hp : PtrsIn B w a n gb go p) (hq : PtrOk B w q) (ho : First p q n o) :
    Calls Try.prog 9 #[.slice a n c, .pointer q] w (ValIs (.int .i64 (retI o)) w) := by
  have HP := (show Hid _ from hp)
  have HQ := (show Hid _ from hq)
  have HO := (show Hid _ from ho)
  clear hp hq ho
  go_enter Try.func9, Try.ntmps9
  go_wp2
  go_loop [8] (fun i => ∃ k : Nat, k ≤ n ∧ i = .int .i64 k ∧ ∀ j, j < k → p j ≠ q) (fun i => n - (intOf i).toNat)
  case atStart => exact ⟨0, Nat.zero_le _, rfl, fun j hj => absurd hj (Nat.not_lt_zero _)⟩
  case round =>
    obtain ⟨k, hk, rfl, hall⟩ := hrel
    have HA := (show Hid _ from hall)
    clear hall
    by_cases hlt : k < n
    · have hlt' : (k : Int) < (n : Int) := by omega
      obtain rfl := HP.out.addr (by omega)
      have c0 := HP.out.cell k hlt
      by_cases e : p k = q
      · have he : (binOp .eql 28 (.pointer q) (.pointer (p k))).run Try.prog w = .ok (.bool true) w := by
          rw [ptr_eql HQ.out (HP.out.ok k hlt)]; simp [e]
        have HE := (show Hid _ from e)
        clear e
        go_wp2
        go_ret
        refine ⟨?_, rfl⟩
        cases o with
        | none => exact absurd HE.out (HO.out k hlt)
        | some k' =>
          obtain ⟨h1, h2, h3⟩ := HO.out
          have e1 : ¬ k < k' := fun h => h3 k h HE.out
          have e2 : ¬ k' < k := fun h => HA.out k' h h2
          obtain rfl : k = k' := by omega
          rfl
      · have he : (binOp .eql 28 (.pointer q) (.pointer (p k))).run Try.prog w = .ok (.bool false) w := by
          rw [ptr_eql HQ.out (HP.out.ok k hlt)]; simp; exact fun h => e h.symm
        have HE := (show Hid _ from e)
        clear e
        go_wp2
        go_round
        case rel =>
          refine ⟨k + 1, by omega, by go_num, fun j hj => ?_⟩
          by_cases e : j = k
          · subst e; exact HE.out
          · exact HA.out j (by omega)
        case measure => simp [intOf]; omega
    · obtain rfl : k = n := by omega
      go_wp2
      go_ret
      refine ⟨?_, rfl⟩
      cases o with
      | none => rfl
      | some k' => exact absurd HO.out.2.1 (HA.out k' HO.out.1)

set_option maxRecDepth 100000 in
set_option maxHeartbeats 400000 in
theorem firstAt_any (B : Nat) (a : Option Addr) (n c gb go : Nat) (p : Nat → Option Addr) (q : Option Addr) (o : Option Nat) (w : World) (hn : n ≤ 4096) (hp : PtrsIn B w a n gb go p) (hq : PtrOk B w q) (ho : First p q n o) :
    Calls Try.prog 7 #[.slice a n c, .pointer q] w (ValIs (.int .i64 (retI o)) w) := by
  have HP := (show Hid _ from hp)
  have HQ := (show Hid _ from hq)
  have HO := (show Hid _ from ho)
  clear hp hq ho
  go_enter Try.func7, Try.ntmps7
  go_wp2
  go_loop [5] (fun i => ∃ k : Nat, k ≤ n ∧ i = .int .i64 k ∧ ∀ j, j < k → p j ≠ q) (fun i => n - (intOf i).toNat)
  case atStart => exact ⟨0, Nat.zero_le _, rfl, fun j hj => absurd hj (Nat.not_lt_zero _)⟩
  case round =>
    obtain ⟨k, hk, rfl, hall⟩ := hrel
    have HA := (show Hid _ from hall)
    clear hall
    by_cases hlt : k < n
    · have hlt' : (k : Int) < (n : Int) := by omega
      obtain rfl := HP.out.addr (by omega)
      have c0 := HP.out.cell k hlt
      by_cases e : p k = q
      · have he : (binOp .eql 28 (.pointer (p k)) (.pointer q)).run Try.prog w = .ok (.bool true) w := by
          rw [ptr_eql (HP.out.ok k hlt) HQ.out]; simp [e]
        have HE := (show Hid _ from e)
        clear e
        go_wp2
        go_ret
        refine ⟨?_, rfl⟩
        cases o with
        | none => exact absurd HE.out (HO.out k hlt)
        | some k' =>
          obtain ⟨h1, h2, h3⟩ := HO.out
          have e1 : ¬ k < k' := fun h => h3 k h HE.out
          have e2 : ¬ k' < k := fun h => HA.out k' h h2
          obtain rfl : k = k' := by omega
          rfl
      · have he : (binOp .eql 28 (.pointer (p k)) (.pointer q)).run Try.prog w = .ok (.bool false) w := by
          rw [ptr_eql (HP.out.ok k hlt) HQ.out]; simp [e]
        have HE := (show Hid _ from e)
        clear e
        go_wp2
        go_round
        case rel =>
          refine ⟨k + 1, by omega, by go_num, fun j hj => ?_⟩
          by_cases e : j = k
          · subst e; exact HE.out
          · exact HA.out j (by omega)
        case measure => simp [intOf]; omega
    · obtain rfl : k = n := by omega
      go_wp2
      go_ret
      refine ⟨?_, rfl⟩
      cases o with
      | none => rfl
      | some k' => exact absurd HO.out.2.1 (HA.out k' HO.out.1)

/-- The holder of the server first met at o. -/
def hold (p : Nat → Option Addr) (n : Nat) : Option Nat → Option Addr
  | none => none
  | some k => if n < 2 then none else if k + 1 = n then p (k - 1) else p (k + 1)

theorem hold_few (p : Nat → Option Addr) (n k : Nat) (h : n < 2) : hold p n (some k) = none := if_pos h
theorem hold_last (p : Nat → Option Addr) (n k : Nat) (h : ¬ n < 2) (e : k + 1 = n) : hold p n (some k) = p (k - 1) := (if_neg h).trans (if_pos e)
theorem hold_mid (p : Nat → Option Addr) (n k : Nat) (h : ¬ n < 2) (e : ¬ k + 1 = n) : hold p n (some k) = p (k + 1) := (if_neg h).trans (if_neg e)

theorem hold_ok {B : Nat} {w : World} {a : Option Addr} {n gb go : Nat} {p : Nat → Option Addr} {q : Option Addr} {o : Option Nat} (hp : PtrsIn B w a n gb go p) (ho : First p q n o) : PtrOk B w (hold p n o) := by
  cases o with
  | none => exact PtrOk.nil _ _
  | some k =>
    have hk := ho.1
    by_cases h : n < 2
    · rw [hold_few p n k h]; exact PtrOk.nil _ _
    · by_cases e : k + 1 = n
      · rw [hold_last p n k h e]; exact hp.ok _ (by omega)
      · rw [hold_mid p n k h e]; exact hp.ok _ (by omega)

set_option maxRecDepth 100000 in
set_option maxHeartbeats 400000 in
theorem holder_any (B : Nat) (rb : Nat) (a : Option Addr) (n c gb go : Nat) (p : Nat → Option Addr) (q : Option Addr) (o : Option Nat) (w : World) (hn : n ≤ 4096) (hr : w.cell? ⟨rb, 0, none⟩ = some (.slice a n c)) (hp : PtrsIn B w a n gb go p) (hq : PtrOk B w q) (ho : First p q n o) :
    Calls Try.prog 6 #[.pointer (some ⟨rb, 0, none⟩), .pointer q] w (ValIs (.pointer (hold p n o)) w) := by
  have HI : Hid (Calls Try.prog 9 #[.slice a n c, .pointer q] w (ValIs (.int .i64 (retI o)) w)) := index_any B a n c gb go p q o w hn hp hq ho
  cases o with
  | none =>
    clear hp hq ho
    go_enter Try.func6, Try.ntmps6
    go_wp2_with fail
    go_at_call 9
    refine HI.out.mono ?_
    rintro e w' ⟨rfl, rfl⟩
    simp only [retI]
    go_wp2
    go_ret
    exact ⟨rfl, rfl⟩
  | some k =>
    have hk := ho.1
    obtain rfl := hp.addr (by omega)
    by_cases h : n < 2
    · rw [hold_few p n k h]
      have h' : (n : Int) < 2 := by omega
      have hk' : ¬ (k : Int) < 0 := by omega
      clear hp hq ho
      go_enter Try.func6, Try.ntmps6
      go_wp2_with fail
      go_at_call 9
      refine HI.out.mono ?_
      rintro e w' ⟨rfl, rfl⟩
      simp only [retI]
      go_wp2
      go_ret
      exact ⟨rfl, rfl⟩
    · have h' : ¬ (n : Int) < 2 := by omega
      have hk' : ¬ (k : Int) < 0 := by omega
      by_cases e : k + 1 = n
      · rw [hold_last p n k h e]
        have c0 := hp.cell (k - 1) (by omega)
        have hkn : ((k : Int) == (n : Int) - 1) = true := by rw [beq_iff_eq]; omega
        have hj0 : ¬ (k : Int) - 1 < 0 := by omega
        have hj1 : (k : Int) - 1 < n := by omega
        clear hp hq ho e
        go_enter Try.func6, Try.ntmps6
        go_wp2_with fail
        go_at_call 9
        refine HI.out.mono ?_
        rintro e w' ⟨rfl, rfl⟩
        simp only [retI]
        go_wp2
        go_ret
        exact ⟨rfl, rfl⟩
      · rw [hold_mid p n k h e]
        have c0 := hp.cell (k + 1) (by omega)
        have e1 : ¬ ((k : Int) = (n : Int) - 1) := by omega
        clear hp hq ho
        go_enter Try.func6, Try.ntmps6
        go_wp2_with fail
        go_at_call 9
        refine HI.out.mono ?_
        rintro e w' ⟨rfl, rfl⟩
        simp only [retI]
        go_wp2
        go_ret
        exact ⟨rfl, rfl⟩

end Go.Proofs.Qxb6623411a
