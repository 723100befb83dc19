/-
  Contracts of zzB1LastIndex (11), zzB1ValueAt (32), zzB1ContextOf (13).
-/
import Derived.Test.Qxb6619656aMulti
import Derived.Deep.RegionWith
namespace Go.Proofs.Qxb6619656a
open Go.RowKit

/-- The last place of b among the first k; 0 where there is none. -/
def lastF (S : Nat → ByteArray) : Nat → ByteArray → Int
  | 0, _ => 0
  | k + 1, b => if b = S k then k else lastF S k b

theorem lastF_step (S : Nat → ByteArray) (k : Nat) : (fun t => if t = S k then (k : Int) else lastF S k t) = lastF S (k + 1) := rfl

/-- A map comes back in a new block, told by p; nothing old has turned. -/
def MapRet (p : World → Prop) (w : World) (e : Ending) (w' : World) : Prop := e = .returned (.map (some w.heap.size)) ∧ p w' ∧ Below w.heap.size w w'

set_option maxRecDepth 100000 in
set_option maxHeartbeats 400000 in
theorem lastIndex_any (ga : Option Addr) (n c gb go : Nat) (S : Nat → ByteArray) (w : World) (hn : n ≤ 1048576) (hS : SlStr w ga n gb go S) :
    Calls Try.prog 11 #[.slice ga n c] w (MapRet (fun w' => IntMap w' w.heap.size n (lastF S n)) w) := by
  have HS := (show Hid _ from hS)
  clear hS
  have hmm := @run_makeMap Try.prog
  go_enter Try.func11, Try.ntmps11
  go_wp2
  clear hmm
  have HM0 : Hid (IntMap (w.alloc (.map #[] 0)) w.heap.size 0 (lastF S 0)) := IntMap.made w
  go_loopw [4] (fun i wr => ∃ k : Nat, k ≤ n ∧ i = .int .i64 k ∧ IntMap wr w.heap.size k (lastF S k) ∧ Below w.heap.size w wr) (fun i _ => n - (intOf i).toNat)
  case atStart => exact ⟨0, Nat.zero_le _, rfl, HM0.out, (Below.refl _ _).alloc (Nat.le_refl _) _⟩
  case round =>
    obtain ⟨k, hk, rfl, hM, hbel⟩ := hrel
    clear HM0
    by_cases hlt : k < n
    · have hlt' : (k : Int) < (n : Int) := by omega
      obtain rfl := HS.out.addr (by omega)
      have c0 := (HS.out.later hbel (Nat.le_refl _)).cell k hlt
      have sz := HS.out.size k hlt
      obtain ⟨w1, hupd, hM1, hg1⟩ := hM.store (x := (k : Int)) (by unfold maxLen; omega) sz (WalkArith.wf_i64 (by omega))
      have HM1 := (show Hid _ from hM1)
      have HG1 := (show Hid _ from hg1)
      clear hM1 hg1 hM
      go_wp2
      go_roundw
      case rel => exact ⟨k + 1, by omega, by go_num, HM1.out, hbel.grown HG1.out hbel.size (fun x hx => by cases hx; exact Nat.le_refl _)⟩
      case measure => simp [intOf]; omega
    · obtain rfl : k = n := by omega
      go_wp2
      go_ret
      exact ⟨rfl, hM, hbel⟩

/-- A [][]string as the walks are told of it. -/
structure SGrid where
  b : Nat
  o : Nat
  A : Nat → Option Addr
  L : Nat → Nat
  C : Nat → Nat
  rb : Nat → Nat
  ro : Nat → Nat
  S : Nat → Nat → ByteArray
structure SGridIn (w : World) (a : Option Addr) (n : Nat) (z : SGrid) : Prop where
  addr : 0 < n → a = some ⟨z.b, z.o, none⟩
  row : ∀ r, r < n → w.cell? ⟨z.b, z.o + r, none⟩ = some (.slice (z.A r) (z.L r) (z.C r))
  out : ∀ r, n ≤ r → z.A r = none ∧ z.L r = 0 ∧ z.C r = 0
  bare : ∀ r, z.A r = none → z.L r = 0 ∧ z.C r = 0
  cell : ∀ r, SlStr w (z.A r) (z.L r) (z.rb r) (z.ro r) (z.S r)

theorem SGridIn.later {w w' : World} {a : Option Addr} {n B : Nat} {z : SGrid} (h : SGridIn w a n z) (hb : Below B w w') (hB : w.heap.size ≤ B) : SGridIn w' a n z :=
  ⟨h.addr, fun r hr => (hb.cell (p := ⟨z.b, z.o + r, none⟩) (Nat.lt_of_lt_of_le (World.block_lt_of_cell? _ _ (h.row r hr)) hB)).trans (h.row r hr), h.out, h.bare, fun r => (h.cell r).later hb hB⟩

/-- The value at place i. -/
abbrev SGrid.at_ (z : SGrid) (i : Nat) : Value := .slice (z.A i) (z.L i) (z.C i)

/-- A value comes back; the world is as it was. -/
def ValIs (v : Value) (w : World) (e : Ending) (w' : World) : Prop := e = .returned v ∧ w = w'

set_option maxRecDepth 100000 in
set_option maxHeartbeats 400000 in
theorem valueAt_any (va : Option Addr) (vn vc i : Nat) (z : SGrid) (w : World) (hvn : vn ≤ 1048576) (hi : i ≤ 1048576) (hz : SGridIn w va vn z) :
    Calls Try.prog 32 #[.slice va vn vc, .int .i64 i] w (ValIs (z.at_ i) w) := by
  have HZ := (show Hid _ from hz)
  by_cases hlt : i < vn
  · have hlt' : (i : Int) < (vn : Int) := by omega
    obtain rfl := hz.addr (by omega)
    have c0 := hz.row i hlt
    clear hz
    go_enter Try.func32, Try.ntmps32
    go_wp2
    go_ret
    exact ⟨rfl, rfl⟩
  · have hlt' : ¬ (i : Int) < (vn : Int) := by omega
    obtain ⟨h1, h2, h3⟩ := hz.out i (by omega)
    have e : z.at_ i = .slice none 0 0 := by simp [SGrid.at_, h1, h2, h3]
    rw [e]
    clear hz h1 h2 h3 e
    go_enter Try.func32, Try.ntmps32
    go_wp2
    go_ret
    exact ⟨rfl, rfl⟩

/-- How a slice reads, as a map's element: as itself. -/
def Rv (v : Value) : Option (DataW Value × List MemPlace) :=
  match v with
  | .slice a n c => some (.held (.slice a n c), [])
  | _ => none

/-- Block b is a map[string][]string whose keys are those of the places in I, each with its own value. -/
def CtxMap (w : World) (b m : Nat) (kf : Nat → ByteArray) (z : SGrid) (I : List Nat) : Prop :=
  ∃ D : DataW Value, w.ownsMap Try.prog 9 Rv b m D ∧ (∀ l, Maps.has D l = true ↔ ∃ i, i ∈ I ∧ l = kl (kf i)) ∧ ∀ i, i ∈ I → ∀ zd, D.atKey (kl (kf i)) zd = .held (z.at_ i)

theorem CtxMap.made (w : World) (kf : Nat → ByteArray) (z : SGrid) : CtxMap (w.alloc (.map #[] 0)) w.heap.size 0 kf z [] :=
  ⟨.map [], World.ownsMap_made w _ _ _, fun l => by simp [Maps.has], fun i hi => by cases hi⟩

theorem CtxMap.drew {w : World} {b m : Nat} {kf : Nat → ByteArray} {z : SGrid} {I : List Nat} (h : CtxMap w b m kf z I) : CtxMap w.drew b m kf z I := h

theorem CtxMap.lt {w : World} {b m : Nat} {kf : Nat → ByteArray} {z : SGrid} {I : List Nat} (h : CtxMap w b m kf z I) : b < w.heap.size := by
  obtain ⟨D, h1, _⟩ := h
  exact h1.lt

theorem CtxMap.below {w w' : World} {b m B : Nat} {kf : Nat → ByteArray} {z : SGrid} {I : List Nat} (h : CtxMap w b m kf z I) (hb : Below B w w') (hB : b < B) : CtxMap w' b m kf z I := by
  obtain ⟨D, ⟨es, clock, e1, e2⟩, h2⟩ := h
  exact ⟨D, ⟨es, clock, (hb.block b hB).trans e1, e2⟩, h2⟩

theorem CtxMap.store {w : World} {b m : Nat} {kf : Nat → ByteArray} {z : SGrid} {I : List Nat} (h : CtxMap w b m kf z I) (hm : m < maxLen) {i : Nat} (hs : (kf i).size ≤ maxLen) (hne : ∀ j, j ∈ I → kf j ≠ kf i) :
    ∃ w', (Instr.mapUpdate 29 (.map (some b)) (.string (kf i)) (z.at_ i)).run Try.prog w = .ok () w' ∧ CtxMap w' b (m + 1) kf z (I ++ [i]) ∧ w.grownBy w' (some b) := by
  obtain ⟨D, h1, h2, h3⟩ := h
  obtain ⟨w', hrun, h4, h5⟩ := h1.update (val := z.at_ i) (d := .held (z.at_ i)) (ps := []) law9 Try.underlying29 hm (key_kl hs) rfl
  refine ⟨w', hrun, ⟨_, h4, fun l => ?_, fun j hj zd => ?_⟩, h5⟩
  · by_cases e : l = kl (kf i)
    · subst e
      rw [Maps.has_put_same h1.isMap (kl_key hs)]
      simp only [List.mem_append, List.mem_singleton, true_iff]
      exact ⟨i, .inr rfl, rfl⟩
    · rw [Maps.has_put_other e, h2 l]
      simp only [List.mem_append, List.mem_singleton]
      constructor
      · rintro ⟨j, hj, hl⟩; exact ⟨j, .inl hj, hl⟩
      · rintro ⟨j, hj | hj, hl⟩
        · exact ⟨j, hj, hl⟩
        · subst hj; exact absurd hl e
  · rcases List.mem_append.1 hj with hj | hj
    · rw [Maps.atKey_put_other (fun e => hne j hj (kl_inj e))]
      exact h3 j hj zd
    · obtain rfl := List.mem_singleton.1 hj
      exact Maps.atKey_put_same h1.isMap (kl_key hs) _ _

/-- The places from lo to k-1 that are the last of their spelling. -/
def ctxI (S : Nat → ByteArray) (n lo k : Nat) : List Nat := (List.range k).filter (fun i => decide (lo ≤ i) && (lastF S n (S i) == (i : Int)))

theorem ctxI_succ_in (S : Nat → ByteArray) (n lo k : Nat) (h : lo ≤ k) (hl : (lastF S n (S k) == (k : Int)) = true) : ctxI S n lo (k + 1) = ctxI S n lo k ++ [k] := by
  unfold ctxI; rw [List.range_succ, List.filter_append]; simp [h, hl]
theorem ctxI_succ_out (S : Nat → ByteArray) (n lo k : Nat) (hl : (lastF S n (S k) == (k : Int)) = false) : ctxI S n lo (k + 1) = ctxI S n lo k := by
  unfold ctxI; rw [List.range_succ, List.filter_append]; simp [hl]
theorem ctxI_lo (S : Nat → ByteArray) (n lo : Nat) : ctxI S n lo lo = [] := by
  unfold ctxI; rw [List.filter_eq_nil_iff]; intro i hi; have := List.mem_range.1 hi; simp; omega
theorem ctxI_mem (S : Nat → ByteArray) (n lo k i : Nat) : i ∈ ctxI S n lo k ↔ i < k ∧ lo ≤ i ∧ lastF S n (S i) = i := by
  simp [ctxI, List.mem_filter]
theorem ctxI_inj (S : Nat → ByteArray) (n lo k i j : Nat) (hi : i ∈ ctxI S n lo k) (hj : j ∈ ctxI S n lo k) (h : S i = S j) : i = j := by
  have h1 := ((ctxI_mem S n lo k i).1 hi).2.2
  have h2 := ((ctxI_mem S n lo k j).1 hj).2.2
  rw [h, h2] at h1
  omega
theorem ctxI_nodup (S : Nat → ByteArray) (n lo k : Nat) : (ctxI S n lo k).Nodup := List.Pairwise.filter _ List.nodup_range
theorem ctxI_len (S : Nat → ByteArray) (n lo k : Nat) : (ctxI S n lo k).length ≤ k := by
  have := List.length_filter_le (fun i => decide (lo ≤ i) && (lastF S n (S i) == (i : Int))) (List.range k)
  simpa [ctxI] using this

set_option maxRecDepth 100000 in
set_option maxHeartbeats 400000 in
theorem contextOf_any (ga : Option Addr) (n c gb go : Nat) (S : Nat → ByteArray) (va : Option Addr) (vn vc : Nat) (z : SGrid) (bl m lo hi : Nat) (w : World) (hn : n ≤ 1048576) (hvn : vn ≤ 1048576) (hlo : lo ≤ hi) (hhi : hi ≤ n)
    (hS : SlStr w ga n gb go S) (hz : SGridIn w va vn z) (hM : IntMap w bl m (lastF S n)) :
    Calls Try.prog 13 #[.slice ga n c, .slice va vn vc, .map (some bl), .int .i64 lo, .int .i64 hi] w (MapRet (fun w' => CtxMap w' w.heap.size hi S z (ctxI S n lo hi)) w) := by
  have HS := (show Hid _ from hS)
  have HZ := (show Hid _ from hz)
  have HM := (show Hid _ from hM)
  have hbl := hM.lt
  clear hS hz hM
  have hmm := @run_makeMap Try.prog
  go_enter Try.func13, Try.ntmps13
  go_wp2
  clear hmm
  have HC0 : Hid (CtxMap (w.alloc (.map #[] 0)) w.heap.size lo S z (ctxI S n lo lo)) := by
    show CtxMap _ _ _ _ _ _
    rw [ctxI_lo]
    obtain ⟨D, h1, h2⟩ := CtxMap.made w S z
    exact ⟨D, h1.mono (Nat.zero_le _), h2⟩
  go_loopw [12] (fun i wr => ∃ k : Nat, lo ≤ k ∧ k ≤ hi ∧ i = .int .i64 k ∧ CtxMap wr w.heap.size k S z (ctxI S n lo k) ∧ Below w.heap.size w wr) (fun i _ => hi - (intOf i).toNat)
  case atStart => exact ⟨lo, Nat.le_refl _, hlo, rfl, HC0.out, (Below.refl _ _).alloc (Nat.le_refl _) _⟩
  case round =>
    obtain ⟨k, hlk, hk, rfl, hC, hbel⟩ := hrel
    clear HC0
    by_cases hlt : k < hi
    · have hlt' : (k : Int) < (hi : Int) := by omega
      have hkn : k < n := by omega
      have hkn' : (k : Int) < (n : Int) := by omega
      obtain rfl := HS.out.addr (by omega)
      have c0 := (HS.out.later hbel (Nat.le_refl _)).cell k hkn
      have sz := HS.out.size k hkn
      have hlook := (IntMap.below HM.out hbel hbl).look sz
      cases hq : (lastF S n (S k) == (k : Int)) with
      | false =>
        have HC := (show Hid _ from hC)
        have HQ := (show Hid _ from hq)
        clear hC
        go_wp2
        go_roundw
        case rel =>
          refine ⟨k + 1, by omega, by omega, by go_num, ?_, hbel⟩
          rw [ctxI_succ_out S n lo k HQ.out]
          obtain ⟨D, h1, h2⟩ := HC.out
          exact ⟨D, h1.mono (Nat.le_succ _), h2⟩
        case measure => simp [intOf]; omega
      | true =>
        have hne : ∀ j, j ∈ ctxI S n lo k → S j ≠ S k := fun j hj e => by
          have h1 := (ctxI_mem S n lo k j).1 hj
          rw [e, beq_iff_eq.1 hq] at h1
          omega
        obtain ⟨w1, hupd, hC1, hg1⟩ := hC.drew.store (by unfold maxLen; omega) sz hne
        have HV : Hid (∀ w', Below w.heap.size w w' → Calls Try.prog 32 #[.slice va vn vc, .int .i64 k] w' (ValIs (z.at_ k) w')) := fun w' h => valueAt_any va vn vc k z w' hvn (by omega) (HZ.out.later h (Nat.le_refl _))
        have HC1 : Hid (CtxMap w1 w.heap.size (k + 1) S z (ctxI S n lo (k + 1))) := by
          show CtxMap _ _ _ _ _ _
          rw [ctxI_succ_in S n lo k hlk hq]; exact hC1
        have HG1 := (show Hid _ from hg1)
        clear hC hC1 hg1 hne
        go_wp2
        go_region_with (go_at_call 32; refine (HV.out _ (by exact hbel.drew)).mono ?_; rintro e w' ⟨rfl, rfl⟩)
        all_goals
          go_wp2
          go_roundw
          case rel => exact ⟨k + 1, by omega, by omega, by go_num, HC1.out, hbel.drew.grown HG1.out hbel.size (fun x hx => by cases hx; exact Nat.le_refl _)⟩
          case measure => simp [intOf]; omega
    · obtain rfl : k = hi := by omega
      go_wp2
      go_ret
      exact ⟨rfl, hC, hbel⟩

end Go.Proofs.Qxb6619656a
