/-
  Contract of ZZHasPrincipals (27).
-/
import Derived.Test.Qxb6619656aText
import Derived.Test.Qxb6619656aPrin
import Derived.Deep.Heap
namespace Go.Proofs.Qxb6619656a
open Go.RowKit Go.Deep

theorem Try.info76 : (Try.prog.info? 76).map (fun i => (i.zero, i.size, i.bytes)) = some (some (.agg #[.string ⟨#[]⟩, .string ⟨#[]⟩, .bool false, .slice none 0 0, .pointer none, .pointer none, .slice none 0 0]), 7, 104) := by kernel_rfl

/-- A row that make has just laid: every element reads as the zero value. -/
theorem made_range {w : World} {B g n size : Nat} {e : TypeId} {z : Array Value} (hz : z.size = size) (h : w.ownsRow B e size (.slice (some ⟨g, 0, none⟩) n n) n (madeCells z (n * size)).toList) :
    ∀ r, r < n → w.rangeAt g (r * size) z.toList := by
  intro r hr j v hv
  have hj : j < size := by have := (List.getElem?_eq_some_iff.1 hv).1; simpa [hz] using this
  have hlt : r * size + j < n * size := by
    have : (r + 1) * size ≤ n * size := Nat.mul_le_mul_right _ hr
    rw [Nat.add_mul, Nat.one_mul] at this
    omega
  rw [h.cellAt _ hlt]
  have hm : (r * size + j) % size = j := by rw [Nat.mul_comm, Nat.mul_add_mod, Nat.mod_eq_of_lt hj]
  have hz2 : z[j]! = v := by
    have h' : z[j]? = some v := by simpa using hv
    rw [getElem!_def, h']
  have h2 : (madeCells z (n * size)).toList[r * size + j]? = some z[(r * size + j) % z.size]! := by
    simp [madeCells, hlt]
  rw [h2, hz, hm, hz2]

theorem range_same {w w' : World} {b o : Nat} {cs : List Value} (h : w'.heap[b]? = w.heap[b]?) (hr : w.rangeAt b o cs) : w'.rangeAt b o cs := fun j v hv => by
  rw [World.cell?_of_block (w := w) (a := ⟨b, o + j, none⟩) h]; exact hr j v hv

theorem range_set_other {w : World} {b o i : Nat} {cs : List Value} {u : Value} (hr : w.rangeAt b o cs) (hi : i < o ∨ o + cs.length ≤ i) : (w.setCell ⟨b, i, none⟩ u).rangeAt b o cs := fun j v hv => by
  have hj := (List.getElem?_eq_some_iff.1 hv).1
  rw [World.cell?_setCell_other _ _ _ _ (fun e => by have := congrArg Addr.off e; simp only at this; omega)]
  exact hr j v hv

theorem range_set_in {w : World} {b o i : Nat} {cs : List Value} {u : Value} (hr : w.rangeAt b o cs) (hi : i < cs.length) : (w.setCell ⟨b, o + i, none⟩ u).rangeAt b o (cs.set i u) := fun j v hv => by
  have hj := (List.getElem?_eq_some_iff.1 hv).1
  by_cases e : j = i
  · subst e
    rw [List.getElem?_set_self hi] at hv
    obtain ⟨x, hx⟩ : ∃ x, cs[j]? = some x := ⟨_, List.getElem?_eq_getElem hi⟩
    have h0 := hr j x hx
    cases hv
    exact World.cell?_setCell_same _ _ _ h0
  · rw [List.getElem?_set_ne (by omega)] at hv
    rw [World.cell?_setCell_other _ _ _ _ (fun e' => by have := congrArg Addr.off e'; simp only at this; omega)]
    exact hr j v hv

/-- WHAT HOLDS WHEN k POLICIES ARE MADE: nothing old has turned; the policies' own row; one block of statements a policy. -/
structure PrinAt (w wr : World) (G : Nat) (L : Nat → Nat) (B : Nat → Nat → Bool) (k : Nat) (sb : Nat → Nat) : Prop where
  below : Below w.heap.size w wr
  size : w.heap.size < wr.heap.size
  row : ∀ r, r < G → wr.rangeAt w.heap.size (r * 8) (namedOf (if r < k then .slice (some ⟨sb r, 0, none⟩) (L r) (L r) else .slice none 0 0))
  fz : ∀ j, wr.frozen? ⟨w.heap.size, j, none⟩ = false
  lo : ∀ r, r < k → w.heap.size < sb r ∧ sb r < wr.heap.size
  st : ∀ r, r < k → ∀ c, c < L r → ∃ q : Option Addr, q.isSome = B r c ∧ wr.rangeAt (sb r) (c * 7) (stmtOf q)

/-- .. and j statements of policy k, in block g. -/
structure PrinIn (w wr : World) (G : Nat) (L : Nat → Nat) (B : Nat → Nat → Bool) (k : Nat) (sb : Nat → Nat) (g j : Nat) : Prop where
  out : PrinAt w wr G L B k sb
  lo : w.heap.size < g ∧ g < wr.heap.size
  ap : ∀ r, r < k → sb r ≠ g
  fz : ∀ i, wr.frozen? ⟨g, i, none⟩ = false
  st : ∀ c, c < L k → ∃ q : Option Addr, q.isSome = (decide (c < j) && B k c) ∧ wr.rangeAt g (c * 7) (stmtOf q)

/-- A step that leaves every block but one as it was. -/
theorem PrinAt.keep {w wr w' : World} {G k g : Nat} {L sb : Nat → Nat} {B : Nat → Nat → Bool} (h : PrinAt w wr G L B k sb) (hb : ∀ x, x < wr.heap.size → x ≠ g → w'.heap[x]? = wr.heap[x]?) (hs : wr.heap.size ≤ w'.heap.size)
    (hB : Below w.heap.size w w') (hg : w.heap.size < g) (hap : ∀ r, r < k → sb r ≠ g) : PrinAt w w' G L B k sb :=
  ⟨hB, Nat.lt_of_lt_of_le h.size hs, fun r hr => range_same (hb _ h.size (by omega)) (h.row r hr), fun j => by
    rw [World.frozen?_of_block (w := wr) (a := ⟨w.heap.size, j, none⟩) (hb _ h.size (by simp only; omega))]; exact h.fz j,
    fun r hr => ⟨(h.lo r hr).1, Nat.lt_of_lt_of_le (h.lo r hr).2 hs⟩, fun r hr c hc => by
      obtain ⟨q, hq, hr'⟩ := h.st r hr c hc
      exact ⟨q, hq, range_same (hb _ (h.lo r hr).2 (hap r hr)) hr'⟩⟩

theorem prin_start {w w1 : World} {G : Nat} {L : Nat → Nat} {B : Nat → Nat → Bool} (sb : Nat → Nat)
    (hown : w1.ownsRow w.heap.size 61 8 (.slice (some ⟨w.heap.size, 0, none⟩) G G) G (madeCells (Value.agg #[.string ⟨#[]⟩, .string ⟨#[]⟩, .string ⟨#[]⟩, .slice none 0 0, .string ⟨#[]⟩, .slice none 0 0, .slice none 0 0, .slice none 0 0]).cells (G * 8)).toList)
    (hg : w.grownBy w1 none) : PrinAt w w1 G L B 0 sb :=
  ⟨(Below.refl _ _).grown hg (Nat.le_refl _) (fun _ h => by cases h), ((hown.lt _ rfl).2), fun r hr => by rw [if_neg (Nat.not_lt_zero _)]; exact made_range (size := 8) rfl hown r hr, fun j => hown.frozenAt j, fun r hr => absurd hr (Nat.not_lt_zero _), fun r hr => absurd hr (Nat.not_lt_zero _)⟩

theorem prin_in {w wr w1 : World} {G k : Nat} {L sb : Nat → Nat} {B : Nat → Nat → Bool} (h : PrinAt w wr G L B k sb)
    (hown : w1.ownsRow wr.heap.size 76 7 (.slice (some ⟨wr.heap.size, 0, none⟩) (L k) (L k)) (L k) (madeCells (Value.agg #[.string ⟨#[]⟩, .string ⟨#[]⟩, .bool false, .slice none 0 0, .pointer none, .pointer none, .slice none 0 0]).cells (L k * 7)).toList)
    (hg : wr.grownBy w1 none) : PrinIn w w1 G L B k sb wr.heap.size 0 :=
  ⟨h.keep (g := wr.heap.size) (fun x hx _ => hg.block x hx (by simp)) hg.size (h.below.grown hg h.below.size (fun _ h => by cases h)) h.size (fun r hr => by have := (h.lo r hr).2; omega),
    ⟨h.size, (hown.lt _ rfl).2⟩, fun r hr => by have := (h.lo r hr).2; omega, fun i => hown.frozenAt i, fun c hc => ⟨none, by simp, made_range rfl hown c hc⟩⟩

theorem prin_skip {w wr : World} {G k g j : Nat} {L sb : Nat → Nat} {B : Nat → Nat → Bool} (h : PrinIn w wr G L B k sb g j) (hm : B k j = false) : PrinIn w wr G L B k sb g (j + 1) :=
  ⟨h.out, h.lo, h.ap, h.fz, fun c hc => by
    obtain ⟨q, hq, hr⟩ := h.st c hc
    refine ⟨q, ?_, hr⟩
    rw [hq]
    by_cases e : c = j
    · subst e; simp [hm]
    · congr 1
      simp only [decide_eq_decide]
      omega⟩

theorem prin_mark {w wr : World} {G k g j : Nat} {L sb : Nat → Nat} {B : Nat → Nat → Bool} (h : PrinIn w wr G L B k sb g j) (hj : j < L k) (hm : B k j = true) (o : Obj) (ad : Addr) :
    PrinIn w ((wr.alloc o).setCell ⟨g, j * 7 + 5, none⟩ (.pointer (some ad))) G L B k sb g (j + 1) := by
  have hsz : ((wr.alloc o).setCell ⟨g, j * 7 + 5, none⟩ (.pointer (some ad))).heap.size = wr.heap.size + 1 := by rw [nblk_setCell, nblk_alloc]
  refine ⟨h.out.keep (g := g) (fun x hx hxg => by rw [blk_setCell_other _ _ _ _ hxg, blk_alloc_lt _ _ _ hx]) (by omega) ((h.out.below.alloc h.out.below.size _).setCell (Nat.le_of_lt h.lo.1) _) h.lo.1 h.ap,
    ⟨h.lo.1, by have := h.lo.2; omega⟩, h.ap, fun i => ?_, fun c hc => ?_⟩
  · rw [World.frozen?_setCell, World.frozen?_of_block (w := wr) (a := ⟨g, i, none⟩) (blk_alloc_lt _ _ _ h.lo.2)]
    exact h.fz i
  · obtain ⟨q, hq, hr⟩ := h.st c hc
    have hr' : (wr.alloc o).rangeAt g (c * 7) (stmtOf q) := range_same (blk_alloc_lt _ _ _ h.lo.2) hr
    by_cases e : c = j
    · subst e
      exact ⟨some ad, by simp [hm], range_set_in (i := 5) hr' (by simp)⟩
    · refine ⟨q, ?_, range_set_other hr' (by simp; omega)⟩
      rw [hq]
      congr 1
      simp only [decide_eq_decide]
      omega

theorem prin_done {w wr : World} {G k g : Nat} {L sb : Nat → Nat} {B : Nat → Nat → Bool} (h : PrinIn w wr G L B k sb g (L k)) (hk : k < G) :
    PrinAt w (wr.setCell ⟨w.heap.size, k * 8 + 3, none⟩ (.slice (some ⟨g, 0, none⟩) (L k) (L k))) G L B (k + 1) (fun r => if r = k then g else sb r) := by
  have hsz : (wr.setCell ⟨w.heap.size, k * 8 + 3, none⟩ (.slice (some ⟨g, 0, none⟩) (L k) (L k))).heap.size = wr.heap.size := nblk_setCell _ _ _
  refine ⟨h.out.below.setCell (Nat.le_refl _) _, by have := h.out.size; omega, fun r hr => ?_, fun j => by rw [World.frozen?_setCell]; exact h.out.fz j, fun r hr => ?_, fun r hr c hc => ?_⟩
  · have hr0 := h.out.row r hr
    by_cases e : r = k
    · subst e
      rw [if_neg (Nat.lt_irrefl _)] at hr0
      rw [if_pos (by omega), if_pos rfl]
      exact range_set_in (i := 3) hr0 (by simp)
    · have : (if r < k + 1 then (Value.slice (some ⟨if r = k then g else sb r, 0, none⟩) (L r) (L r)) else .slice none 0 0) = if r < k then (Value.slice (some ⟨sb r, 0, none⟩) (L r) (L r)) else .slice none 0 0 := by
        rw [if_neg e]
        by_cases h2 : r < k
        · rw [if_pos h2, if_pos (by omega)]
        · rw [if_neg h2, if_neg (by omega)]
      rw [this]
      exact range_set_other hr0 (by simp; omega)
  · by_cases e : r = k
    · rw [if_pos e]; have := h.lo; omega
    · rw [if_neg e]; have := h.out.lo r (by omega); omega
  · by_cases e : r = k
    · subst e
      rw [if_pos rfl]
      obtain ⟨q, hq, hr'⟩ := h.st c hc
      exact ⟨q, by rw [hq]; simp [hc], range_same (blk_setCell_other _ _ _ _ (by have := h.lo.1; simp only; omega)) hr'⟩
    · rw [if_neg e]
      obtain ⟨q, hq, hr'⟩ := h.out.st r (by omega) c hc
      exact ⟨q, hq, range_same (blk_setCell_other _ _ _ _ (by have := (h.out.lo r (by omega)).1; simp only; omega)) hr'⟩

/-- A [][]bool as the walks are told of it. -/
structure Grid where
  b : Nat
  o : Nat
  A : Nat → Option Addr
  L : Nat → Nat
  C : Nat → Nat
  rb : Nat → Nat
  ro : Nat → Nat
  B : Nat → Nat → Bool
structure GridIn (w : World) (a : Option Addr) (n : Nat) (z : Grid) : Prop where
  addr : 0 < n → a = some ⟨z.b, z.o, none⟩
  row : ∀ r, r < n → w.cell? ⟨z.b, z.o + r, none⟩ = some (.slice (z.A r) (z.L r) (z.C r))
  cell : ∀ r, r < n → ∀ c, c < z.L r → z.A r = some ⟨z.rb r, z.ro r, none⟩ ∧ w.cell? ⟨z.rb r, z.ro r + c, none⟩ = some (.bool (z.B r c))

theorem GridIn.later {w w' : World} {a : Option Addr} {n : Nat} {z : Grid} (h : GridIn w a n z) (hb : Below w.heap.size w w') : GridIn w' a n z :=
  ⟨h.addr, fun r hr => (hb.cell (p := ⟨z.b, z.o + r, none⟩) (World.block_lt_of_cell? _ _ (h.row r hr))).trans (h.row r hr), fun r hr c hc =>
    ⟨(h.cell r hr c hc).1, (hb.cell (p := ⟨z.rb r, z.ro r + c, none⟩) (World.block_lt_of_cell? _ _ (h.cell r hr c hc).2)).trans (h.cell r hr c hc).2⟩⟩

set_option maxRecDepth 100000 in
set_option maxHeartbeats 400000 in
theorem zzHasPrin_any (ga : Option Addr) (G Gc : Nat) (z : Grid) (w : World) (hG : G ≤ 1048576) (hL : ∀ r, r < G → z.L r ≤ 1048576) (hz : GridIn w ga G z) :
    Calls Try.prog 27 #[.slice ga G Gc] w (BoolNew (anyGrid z.L z.B G) w) := by
  obtain ⟨i0, hi, hz0, hz1, hz2⟩ := info_parts Try.info61
  obtain ⟨i1, gi, gz0, gz1, gz2⟩ := info_parts Try.info76
  have HL := (show Hid _ from hL)
  have HZ : Hid (GridIn w ga G z) := hz
  clear hL hz
  go_enter Try.func27, Try.ntmps27
  go_wp2_with (at_make; go_must (refine wpList_make_full _ rfl _ _ 52 rfl w.heap.size 61 i0 _ 8 Try.underlying52 hi hz0 hz1 _ _ _ _ G rfl rfl rfl rfl (by rw [hz2]; omega) (by unfold maxLen; omega) (Nat.le_refl _) ?_); intro w1 hown1 hg1)
  have hP0 := prin_start (L := z.L) (B := z.B) (fun _ => 0) hown1 hg1
  clear hown1 hg1 hi hz0 hz1 hz2
  go_loopw [12] (fun i wr => ∃ (k : Nat) (sb : Nat → Nat), k ≤ G ∧ i = .int .i64 k ∧ PrinAt w wr G z.L z.B k sb) (fun i _ => G - (intOf i).toNat)
  case atStart => exact ⟨0, _, Nat.zero_le _, rfl, hP0⟩
  case round =>
    obtain ⟨k, sb, hk, rfl, hP⟩ := hrel
    clear hP0
    by_cases hlt : k < G
    · have hlt' : (k : Int) < (G : Int) := by omega
      have hLk := HL.out k hlt
      have hzr := HZ.out.later hP.below
      obtain rfl := hzr.addr (by omega)
      have c0 := hzr.row k hlt
      have hb0 : z.b < wr.heap.size := World.block_lt_of_cell? _ _ c0
      have HP := (show Hid _ from hP)
      have HZR := (show Hid _ from hzr)
      clear hP hzr
      go_wp2_with (at_make; go_must (refine wpList_make_full _ rfl _ _ 53 rfl wr.heap.size 76 i1 _ 7 Try.underlying53 gi gz0 gz1 _ _ _ _ (z.L k) rfl rfl rfl rfl (by rw [gz2]; omega) (by unfold maxLen; omega) (Nat.le_refl _) ?_); intro w1 hown1 hg1; have c1 : w1.cell? ⟨z.b, z.o + k, none⟩ = some (.slice (z.A k) (z.L k) (z.C k)) := hg1.cell c0 (by simp))
      have hI0 := prin_in HP.out hown1 hg1
      clear hown1 hg1 HP HZR c0 c1 gi gz0 gz1 gz2
      generalize wr.heap.size = g at *
      go_loopw [26] (fun i wi => ∃ j : Nat, j ≤ z.L k ∧ i = .int .i64 j ∧ PrinIn w wi G z.L z.B k sb g j) (fun i _ => z.L k - (intOf i).toNat)
      case atStart => exact ⟨0, Nat.zero_le _, rfl, hI0⟩
      case round =>
        obtain ⟨j, hj, rfl, hI⟩ := hrel
        clear hI0
        have hzr := HZ.out.later hI.out.below
        by_cases hjl : j < z.L k
        · have hjl' : (j : Int) < (z.L k : Int) := by omega
          have c0 := hzr.row k hlt
          obtain ⟨eA, c1⟩ := hzr.cell k hlt j hjl
          rw [eA] at c0
          clear eA hzr
          have HI := (show Hid _ from hI)
          cases hm : z.B k j with
          | false =>
            rw [hm] at c1
            clear hI
            go_wp2
            go_roundw
            case rel => exact ⟨j + 1, by omega, by go_num, prin_skip HI.out hm⟩
            case measure => simp [intOf]; omega
          | true =>
            rw [hm] at c1
            obtain ⟨q, _, hr⟩ := hI.st j hjl
            have c2 : ∀ o, (wr.alloc o).cell? ⟨g, j * 7 + 5, none⟩ = some (.pointer q) := fun o => range_same (blk_alloc_lt _ _ _ hI.lo.2) hr 5 _ rfl
            have c3 : ∀ o, (wr.alloc o).frozen? ⟨g, j * 7 + 5, none⟩ = false := fun o => by
              rw [World.frozen?_of_block (w := wr) (a := ⟨g, j * 7 + 5, none⟩) (blk_alloc_lt _ _ _ hI.lo.2)]; exact hI.fz _
            clear hI hr
            go_wp2
            go_roundw
            case rel => exact ⟨j + 1, by omega, by go_num, prin_mark HI.out hjl hm _ _⟩
            case measure => simp [intOf]; omega
        · obtain rfl : j = z.L k := by omega
          have c2 : wr.cell? ⟨w.heap.size, k * 8 + 3, none⟩ = some (.slice none 0 0) := by
            have := hI.out.row k hlt 3 _ rfl
            rw [if_neg (Nat.lt_irrefl _)] at this
            exact this
          have c3 : wr.frozen? ⟨w.heap.size, k * 8 + 3, none⟩ = false := hI.out.fz _
          have HI := (show Hid _ from hI)
          clear hI hzr
          go_wp2
          go_roundw
          case rel => exact ⟨k + 1, _, by omega, by go_num, prin_done HI.out hlt⟩
          case measure => simp [intOf]; omega
    · obtain rfl : k = G := by omega
      have HC : Hid (∀ w', w' = wr → Calls Try.prog 34 #[.slice (some ⟨w.heap.size, 0, none⟩) k k] w' (BoolNew (anyGrid z.L z.B k) w')) := fun w' h => by
        subst h
        exact hasPrin_any w.heap.size k z.L sb z.B w' hG HL.out (fun r hr => by have := hP.row r hr; rwa [if_pos hr] at this) hP.st
      go_wp2_with fail
      refine (HC.out _ rfl).mono ?_
      rintro e w2 ⟨rfl, hb2⟩
      go_wp2
      go_ret
      exact ⟨rfl, hP.below.trans (hb2.mono hP.below.size)⟩

end Go.Proofs.Qxb6619656a
