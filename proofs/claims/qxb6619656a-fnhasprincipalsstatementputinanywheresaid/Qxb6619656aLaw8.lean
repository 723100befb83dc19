/-
  The walk of FnHasPrincipalsStatementPutInAnywhere (8).
-/
import Derived.Test.Qxb6619656aLaw7
namespace Go.Proofs.Qxb6619656a
open Go.RowKit

theorem Try.info4 : (Try.prog.info? 4).map (fun i => (i.zero, i.size, i.bytes)) = some (some (.bool false), 1, 1) := by kernel_rfl
theorem Try.info42 : (Try.prog.info? 42).map (fun i => (i.zero, i.size, i.bytes)) = some (some (.slice none 0 0), 1, 24) := by kernel_rfl

/-! ### The plain law -/
theorem anyRow_iff (B : Nat → Bool) : ∀ n, anyRow B n = true ↔ ∃ c, c < n ∧ B c = true
  | 0 => by simp [anyRow]
  | n + 1 => by
    simp only [anyRow, Bool.or_eq_true, anyRow_iff B n]
    constructor
    · rintro (⟨c, h1, h2⟩ | h)
      · exact ⟨c, by omega, h2⟩
      · exact ⟨n, by omega, h⟩
    · rintro ⟨c, h1, h2⟩
      by_cases e : c = n
      · subst e; exact .inr h2
      · exact .inl ⟨c, by omega, h2⟩

theorem anyGrid_iff (L : Nat → Nat) (B : Nat → Nat → Bool) : ∀ n, anyGrid L B n = true ↔ ∃ r, r < n ∧ ∃ c, c < L r ∧ B r c = true
  | 0 => by simp [anyGrid]
  | n + 1 => by
    simp only [anyGrid, Bool.or_eq_true, anyGrid_iff L B n, anyRow_iff]
    constructor
    · rintro (⟨r, h1, h2⟩ | h)
      · exact ⟨r, by omega, h2⟩
      · exact ⟨n, by omega, h⟩
    · rintro ⟨r, h1, h2⟩
      by_cases e : r = n
      · subst e; exact .inr h2
      · exact .inl ⟨r, by omega, h2⟩

/-- A row with one mark put in. -/
def putIn (B : Nat → Bool) (k : Nat) (m : Bool) : Nat → Bool := fun j => if j < k then B j else if j = k then m else B (j - 1)

theorem putIn_lt (B : Nat → Bool) (k : Nat) (m : Bool) (j : Nat) (h : j < k) : putIn B k m j = B j := by simp [putIn, h]
theorem putIn_at (B : Nat → Bool) (k : Nat) (m : Bool) : putIn B k m k = m := by simp [putIn]
theorem putIn_gt (B : Nat → Bool) (k : Nat) (m : Bool) (j : Nat) (h : k ≤ j) : putIn B k m (j + 1) = B j := by
  unfold putIn; rw [if_neg (by omega), if_neg (by omega)]; rfl

def putL (L : Nat → Nat) (row : Nat) : Nat → Nat := fun r => if r = row then L row + 1 else L r
def putB (B : Nat → Nat → Bool) (row k : Nat) (m : Bool) : Nat → Nat → Bool := fun r => if r = row then putIn (B row) k m else B r

theorem anyGrid_put (L : Nat → Nat) (B : Nat → Nat → Bool) (G row k : Nat) (m : Bool) (hr : row < G) (hk : k ≤ L row) : anyGrid (putL L row) (putB B row k m) G = (anyGrid L B G || m) := by
  rw [Bool.eq_iff_iff, Bool.or_eq_true, anyGrid_iff, anyGrid_iff]
  constructor
  · rintro ⟨r, h1, c, h2, h3⟩
    by_cases e : r = row
    · subst e
      simp only [putL, putB, if_true] at h2 h3
      by_cases e1 : c < k
      · rw [putIn_lt _ _ _ _ e1] at h3
        exact .inl ⟨r, h1, c, by omega, h3⟩
      · by_cases e2 : c = k
        · subst e2; rw [putIn_at] at h3; exact .inr h3
        · obtain ⟨c', rfl⟩ : ∃ c', c = c' + 1 := ⟨c - 1, by omega⟩
          rw [putIn_gt _ _ _ _ (by omega)] at h3
          exact .inl ⟨r, h1, c', by omega, h3⟩
    · simp only [putL, putB, if_neg e] at h2 h3
      exact .inl ⟨r, h1, c, h2, h3⟩
  · rintro (⟨r, h1, c, h2, h3⟩ | h)
    · by_cases e : r = row
      · subst e
        by_cases e1 : c < k
        · exact ⟨r, h1, c, by simp only [putL, if_true]; omega, by simp only [putB, if_true]; rw [putIn_lt _ _ _ _ e1]; exact h3⟩
        · exact ⟨r, h1, c + 1, by simp only [putL, if_true]; omega, by simp only [putB, if_true]; rw [putIn_gt _ _ _ _ (by omega)]; exact h3⟩
      · exact ⟨r, h1, c, by simp only [putL, if_neg e]; exact h2, by simp only [putB, if_neg e]; exact h3⟩
    · exact ⟨row, hr, k, by simp only [putL, if_true]; omega, by simp only [putB, if_true]; rw [putIn_at]; exact h⟩

/-! ### The new memory -/
def boolCells (R : Nat → Bool) (m : Nat) : List Value := (List.range m).map (fun j => Value.bool (R j))
theorem boolCells_len (R : Nat → Bool) (m : Nat) : (boolCells R m).length = m := by simp [boolCells]
theorem boolCells_succ (R : Nat → Bool) (m : Nat) : boolCells R (m + 1) = boolCells R m ++ [.bool (R m)] := by simp [boolCells, List.range_succ]
theorem boolCells_get (R : Nat → Bool) (m j : Nat) (h : j < m) : (boolCells R m)[j]? = some (.bool (R j)) := by simp [boolCells, h]

/-- The grown grid, as the walks are told of it. -/
def Grid.put (z : Grid) (b row k : Nat) (m : Bool) (g : Nat) : Grid :=
  ⟨b, 0, fun r => if r = row then some ⟨g, 0, none⟩ else z.A r, putL z.L row, fun r => if r = row then z.L row + 1 else z.C r, fun r => if r = row then g else z.rb r, fun r => if r = row then 0 else z.ro r, putB z.B row k m⟩

/-- WHAT HOLDS WHILE THE COPY IS FILLED: k of the rows stand in it. -/
structure CopyAt (w wr : World) (G k : Nat) (z : Grid) (xs : List Value) : Prop where
  own : wr.ownsRow w.heap.size 42 1 (.slice (some ⟨w.heap.size, 0, none⟩) G G) G xs
  rows : ∀ r, r < k → xs[r]? = some (.slice (z.A r) (z.L r) (z.C r))
  below : Below w.heap.size w wr

theorem CopyAt.step {w wr : World} {G k : Nat} {z : Grid} {xs : List Value} (h : CopyAt w wr G k z xs) (hk : k < G) :
    CopyAt w (wr.setCell ⟨w.heap.size, k, none⟩ (.slice (z.A k) (z.L k) (z.C k))) G (k + 1) z (xs.set k (.slice (z.A k) (z.L k) (z.C k))) :=
  ⟨(h.own.stored k _).1, fun r hr => by
    have hl := h.own.1
    by_cases e : r = k
    · subst e; rw [List.getElem?_set_self (by omega)]
    · rw [List.getElem?_set_ne (by omega)]; exact h.rows r (by omega), h.below.setCell (Nat.le_refl _) _⟩

theorem CopyAt.kept {w wr w' : World} {G k : Nat} {z : Grid} {xs : List Value} {row : Option Nat} (h : CopyAt w wr G k z xs) (hg : wr.grownBy w' row) (hr : ∀ x, row = some x → w.heap.size < x) : CopyAt w w' G k z xs :=
  ⟨h.own.kept hg (by
    right
    intro e
    have := hr _ e.symm
    simp at this), h.rows, h.below.grown hg h.below.size (fun x hx => Nat.le_of_lt (hr x hx))⟩

theorem CopyAt.done {w wr w' : World} {G row k g : Nat} {m : Bool} {z : Grid} {xs : List Value} {a : Option Addr} (h : CopyAt w wr G G z xs) (hz : GridIn w a G z) (hrow : row < G) (hg : w.heap.size < g)
    (hline : wr.ownsRow (w.heap.size + 1) 4 1 (.slice (some ⟨g, 0, none⟩) (z.L row + 1) (z.L row + 1)) (z.L row + 1) (boolCells (putIn (z.B row) k m) (z.L row + 1)))
    (hw' : w' = wr.setCell ⟨w.heap.size, row, none⟩ (.slice (some ⟨g, 0, none⟩) (z.L row + 1) (z.L row + 1))) : GridIn w' (some ⟨w.heap.size, 0, none⟩) G (z.put w.heap.size row k m g) := by
  have hb : Below w.heap.size w w' := by rw [hw']; exact h.below.setCell (Nat.le_refl _) _
  have hz' := hz.later hb
  have hl := h.own.1
  refine ⟨fun _ => rfl, fun r hr => ?_, fun r hr c hc => ?_⟩
  · show w'.cell? ⟨w.heap.size, 0 + r, none⟩ = some (.slice (if r = row then some ⟨g, 0, none⟩ else z.A r) (if r = row then z.L row + 1 else z.L r) (if r = row then z.L row + 1 else z.C r))
    rw [Nat.zero_add, hw', (h.own.stored row _).1.cellAt r (by omega)]
    by_cases e : r = row
    · subst e; rw [List.getElem?_set_self (by omega)]; simp
    · rw [List.getElem?_set_ne (by omega), h.rows r hr]; simp [e]
  · by_cases e : r = row
    · subst e
      have hc' : c < z.L r + 1 := by simpa [Grid.put, putL] using hc
      show (if r = r then some ⟨g, 0, none⟩ else z.A r) = some ⟨if r = r then g else z.rb r, if r = r then 0 else z.ro r, none⟩ ∧ w'.cell? ⟨if r = r then g else z.rb r, (if r = r then 0 else z.ro r) + c, none⟩ = some (.bool (putB z.B r k m r c))
      rw [if_pos rfl, if_pos rfl, if_pos rfl, Nat.zero_add]
      refine ⟨rfl, ?_⟩
      rw [hw', World.cell?_setCell_other _ _ _ _ (fun e => by have := congrArg Addr.block e; simp only at this; omega), hline.cellAt c (by omega), boolCells_get _ _ _ hc']
      simp [putB]
    · have hc' : c < z.L r := by simpa [Grid.put, putL, e] using hc
      show (if r = row then some ⟨g, 0, none⟩ else z.A r) = some ⟨if r = row then g else z.rb r, if r = row then 0 else z.ro r, none⟩ ∧ w'.cell? ⟨if r = row then g else z.rb r, (if r = row then 0 else z.ro r) + c, none⟩ = some (.bool (putB z.B row k m r c))
      rw [if_neg e, if_neg e, if_neg e]
      refine ⟨(hz'.cell r hr c hc').1, ?_⟩
      rw [(hz'.cell r hr c hc').2]
      simp [putB, e]

set_option maxRecDepth 100000 in
set_option maxHeartbeats 400000 in
theorem bytesMarks29s (ga : Option Addr) (n c : Nat) (z : Grid) (x1 x2 : Int) (b1 : Bool) (w : World) (hn : n ≤ maxLen) (hs : ∀ i, i < n → z.L i ≤ maxLen) (hz : GridIn w ga n z) :
    Calls Try.prog 29 #[.slice ga n c, .int .i64 x1, .int .i64 x2, .bool b1] w (BoolRet (fun b => b = true → n ≤ 1048576 ∧ ∀ i, i < n → z.L i < 1048576) w) := by
  unfold maxLen at hn hs
  have HZ : Hid (GridIn w ga n z) := hz
  have HSS := (show Hid _ from hs)
  clear hz hs
  by_cases h0 : 1048576 < n
  · have h0' : (1048576 : Int) < (n : Int) := by omega
    go_enter Try.func29, Try.ntmps29
    go_wp2
    go_ret
    exact ⟨_, rfl, by simp, rfl⟩
  · have h0' : ¬ (1048576 : Int) < (n : Int) := by omega
    go_enter Try.func29, Try.ntmps29
    go_wp2
    go_loop [9, 10] (fun s i => ∃ (k : Nat) (zz : Int), k ≤ n ∧ i = .int .i64 k ∧ s = .int .i64 zz ∧ (n : Int) ≤ zz ∧ zz ≤ 1048576 ∧ ∀ j, j < k → z.L j < 1048576) (fun _ i => n - (intOf i).toNat)
    case atStart => exact ⟨0, n, Nat.zero_le _, rfl, rfl, by omega, by omega, fun j hj => absurd hj (Nat.not_lt_zero _)⟩
    case round =>
      obtain ⟨k, zz, hk, rfl, rfl, hz0, hz1, hall⟩ := hrel
      have HA := (show Hid _ from hall)
      clear hall
      by_cases hlt : k < n
      · obtain rfl := HZ.out.addr (by omega)
        have hcell := HZ.out.row k hlt
        have hsz := HSS.out k hlt
        have hlt' : (k : Int) < (n : Int) := by omega
        go_wp2
        · go_ret
          exact ⟨_, rfl, by simp, rfl⟩
        · go_ret
          exact ⟨_, rfl, by simp, rfl⟩
        · go_round
          case rel =>
            refine ⟨k + 1, _, by omega, by go_num, rfl, by omega, by omega, fun j hj => ?_⟩
            by_cases e : j = k
            · subst e; omega
            · exact HA.out j (by omega)
          case measure => simp [intOf]; omega
      · go_wp2
        go_ret
        exact ⟨_, rfl, fun _ => ⟨by omega, fun i hi => HA.out i (by omega)⟩, rfl⟩

set_option maxRecDepth 100000 in
set_option maxHeartbeats 1000000 in
theorem law8_mid (ga : Option Addr) (G Gc row k0 : Nat) (mark : Bool) (z : Grid) (w : World) (hG : G ≤ 1048576) (hLs : ∀ r, r < G → z.L r < 1048576) (hz : GridIn w ga G z) (hrow : row < G) (hk0 : k0 ≤ z.L row) :
    Calls Try.prog 8 #[.slice ga G Gc, .int .i64 row, .int .i64 k0, .bool mark] w (TrueNew w) := by
  have hL : ∀ r, r < G → z.L r ≤ 1048576 := fun r hr => Nat.le_of_lt (hLs r hr)
  obtain ⟨i42, hi42, hy0, hy1, hy2⟩ := info_parts Try.info42
  obtain ⟨i4, hi4, hq0, hq1, hq2⟩ := info_parts Try.info4
  obtain rfl := hz.addr (by omega)
  have hLr := hL row hrow
  have d1 : ¬ ((row : Int) < 0) := by omega
  have d2 : ¬ (G ≤ row) := by omega
  have d3 : ¬ ((k0 : Int) < 0) := by omega
  have d4 : ¬ (z.L row < k0) := by omega
  have d5 : (row : Int) < (G : Int) := by omega
  have d6 : (k0 : Int) ≤ (z.L row : Int) := by omega
  have HB : Hid (∀ w', w' = w → Calls Try.prog 29 #[.slice (some ⟨z.b, z.o, none⟩) G Gc, .int .i64 row, .int .i64 k0, .bool mark] w' (BoolRet (fun b => b = true → G ≤ 1048576 ∧ ∀ i, i < G → z.L i ≤ 1048576) w')) := fun w' h => by
    subst h; exact bytesMarks29 _ G Gc z row k0 mark w' (by unfold maxLen; omega) (fun i hi => by have := hL i hi; unfold maxLen; omega) hz
  have HN : Hid (∀ w', w' = w → Calls Try.prog 26 #[.slice (some ⟨z.b, z.o, none⟩) G Gc] w' (BoolRet (fun _ => True) w')) := fun w' h => by
    subst h; exact marksTooBig_any _ G Gc z w' (by unfold maxLen; omega) (fun i hi => by have := hL i hi; unfold maxLen; omega) hz
  have HW : Hid (∀ w', Below w.heap.size w w' → Calls Try.prog 27 #[.slice (some ⟨z.b, z.o, none⟩) G Gc] w' (BoolNew (anyGrid z.L z.B G) w')) := fun w' h => zzHasPrin_any _ G Gc z w' hG hL (hz.later h)
  have HA : Hid (∀ w', Below w.heap.size w w' → Calls Try.prog 28 #[.slice (some ⟨z.b, z.o, none⟩) G Gc] w' (BoolIs' (anyGrid z.L z.B G) w')) := fun w' h => anyMark_any _ G Gc z w' hG hL (hz.later h)
  have HP : Hid (∀ g w', GridIn w' (some ⟨w.heap.size, 0, none⟩) G (z.put w.heap.size row k0 mark g) → Calls Try.prog 27 #[.slice (some ⟨w.heap.size, 0, none⟩) G G] w' (BoolNew (anyGrid z.L z.B G || mark) w')) := fun g w' h => by
    have := zzHasPrin_any _ G G (z.put w.heap.size row k0 mark g) w' (by omega) (fun r hr => by
      show putL z.L row r ≤ 1048576
      unfold putL
      by_cases e : r = row
      · rw [if_pos e]; have := hLs row hrow; omega
      · rw [if_neg e]; exact hL r hr) h
    rw [show anyGrid (z.put w.heap.size row k0 mark g).L (z.put w.heap.size row k0 mark g).B G = _ from anyGrid_put z.L z.B G row k0 mark hrow hk0] at this
    exact this
  have HZ := (show Hid _ from hz)
  have c0 := hz.row row hrow
  have hzb : z.b < w.heap.size := World.block_lt_of_cell? _ _ c0
  clear hz hL hLs
  go_enter Try.func8, Try.ntmps8
  go_wp2_with fail
  refine (HB.out _ rfl).mono ?_
  rintro e w' ⟨b, rfl, _, rfl⟩
  cases b
  · go_wp2
    go_ret
    exact ⟨rfl, Below.refl _ _⟩
  go_wp2_with fail
  refine (HN.out _ rfl).mono ?_
  rintro e w' ⟨b, rfl, _, rfl⟩
  cases b
  rotate_left
  · go_wp2
    go_ret
    exact ⟨rfl, Below.refl _ _⟩
  clear HB HN
  go_wp2_with (at_make; go_must (refine wpList_make_full _ rfl _ _ 38 rfl w.heap.size 42 i42 _ 1 Try.underlying38 hi42 hy0 hy1 _ _ _ _ G rfl rfl rfl rfl (by rw [hy2]; omega) (by unfold maxLen; omega) (Nat.le_refl _) ?_); intro w1 hown1 hg1)
  have hC0 : CopyAt w w1 G 0 z _ := ⟨hown1, fun r hr => absurd hr (Nat.not_lt_zero _), (Below.refl _ _).grown hg1 (Nat.le_refl _) (fun _ h => by cases h)⟩
  clear hown1 hg1 hi42 hy0 hy1 hy2
  go_loopw [10] (fun i wr => ∃ (k : Nat) (xs : List Value), k ≤ G ∧ i = .int .i64 k ∧ CopyAt w wr G k z xs) (fun i _ => G - (intOf i).toNat)
  case atStart => exact ⟨0, _, Nat.zero_le _, rfl, hC0⟩
  case round =>
    obtain ⟨k, xs, hk, rfl, hC⟩ := hrel
    clear hC0
    by_cases hlt : k < G
    · have hlt' : (k : Int) < (G : Int) := by omega
      have c1 := (HZ.out.later hC.below).row k hlt
      have hl := hC.own.1
      obtain ⟨v, hv⟩ : ∃ v, xs[k]? = some v := ⟨_, List.getElem?_eq_getElem (by omega)⟩
      have c2 : wr.cell? ⟨w.heap.size, k, none⟩ = some v := (hC.own.cellAt k (by omega)).trans hv
      have c3 : wr.frozen? ⟨w.heap.size, k, none⟩ = false := hC.own.frozenAt k
      have HC := (show Hid _ from hC)
      clear hC hl hv
      go_wp2
      go_roundw
      case rel => exact ⟨k + 1, _, by omega, by go_num, HC.out.step hlt⟩
      case measure => simp [intOf]; omega
    · obtain rfl : k = G := by omega
      have c1 := (HZ.out.later hC.below).row row hrow
      have HC := (show Hid _ from hC)
      have hsz := hC.below.size
      clear hC
      go_wp2_with (at_make; go_must (refine wpList_make_own _ rfl _ _ 42 rfl (w.heap.size + 1) 4 i4 _ 1 Try.underlying42 hi4 hq0 hq1 _ _ _ (z.L row + 1) rfl rfl (by omega) (by rw [hq2]; omega) (by unfold maxLen; omega) ?_ ?_))
      · exact (HC.out.own.lt _ rfl).2
      intro w2 hown2 hg2
      have hC2 := HC.out.kept hg2 (fun _ h => by cases h)
      have hg1lt : w.heap.size < wr.heap.size := (HC.out.own.lt _ rfl).2
      clear HC hg2 c1
      generalize wr.heap.size = g at *
      go_wp2
      obtain ⟨R, hR⟩ : ∃ R, R = putIn (z.B row) k0 mark := ⟨_, rfl⟩
      have HR := (show Hid _ from hR)
      have H2 : Hid (w2.ownsRow (w.heap.size + 1) 4 1 (.slice (some ⟨g, 0, none⟩) 0 (z.L row + 1)) 0 (boolCells R 0)) := hown2
      have HC2 := (show Hid _ from hC2)
      clear hR hown2 hC2
      go_loopw [11, 12] (fun v i wr => ∃ m : Nat, m ≤ k0 ∧ i = .int .i64 m ∧ v = .slice (some ⟨g, 0, none⟩) m (z.L row + 1) ∧ CopyAt w wr k k z xs ∧ wr.ownsRow (w.heap.size + 1) 4 1 (.slice (some ⟨g, 0, none⟩) m (z.L row + 1)) m (boolCells R m)) (fun _ i _ => k0 - (intOf i).toNat)
      case atStart => exact ⟨0, Nat.zero_le _, rfl, rfl, HC2.out, H2.out⟩
      case round =>
        obtain ⟨m, hm, rfl, rfl, hC, hown⟩ := hrel
        clear H2 HC2
        by_cases hmlt : m < k0
        · have hmlt' : (m : Int) < (k0 : Int) := by omega
          have c1 := (HZ.out.later hC.below).row row hrow
          obtain ⟨eA, c2⟩ := (HZ.out.later hC.below).cell row hrow m (by omega)
          rw [eA] at c1
          have hmL : (m : Int) < (z.L row : Int) := by omega
          have HC := (show Hid _ from hC)
          have HO := (show Hid _ from hown)
          clear hC hown eA
          go_wp2_with (at_builtin; go_must (refine wpList_append_fits _ rfl _ _ 42 rfl (w.heap.size + 1) 4 i4 1 Try.underlying42 hi4 hq1 g m (z.L row + 1) _ rfl (World.ownsRow.alloc HO.out _) ⟨wr.heap.size, 0, none⟩ 1 1 [.bool (z.B row m)] rfl rfl (cell_one_new _ _ _) ?_ (by omega) ?_))
          · intro u hu
            simp only [List.mem_singleton] at hu
            subst hu
            rfl
          intro w3 hown3 hg3
          have hC3 := (HC.out.kept (World.grownBy_alloc _ _ none) (fun _ h => by cases h)).kept hg3 (fun x h => by cases h; exact hg1lt)
          have HO3 : Hid (w3.ownsRow (w.heap.size + 1) 4 1 (.slice (some ⟨g, 0, none⟩) (m + 1) (z.L row + 1)) (m + 1) (boolCells R (m + 1))) := by
            show w3.ownsRow _ _ _ _ _ _
            rw [boolCells_succ, HR.out, putIn_lt _ _ _ _ hmlt, ← HR.out]
            exact hown3
          have HC3 := (show Hid _ from hC3)
          clear hown3 hg3 hC3 HC HO c1 c2
          go_wp2
          go_roundw
          case rel => exact ⟨m + 1, by omega, by go_num, rfl, HC3.out, HO3.out⟩
          case measure => simp [intOf]; omega
        · obtain rfl : m = k0 := by omega
          have HC := (show Hid _ from hC)
          have HO := (show Hid _ from hown)
          clear hC hown
          go_wp2_with (at_builtin; go_must (refine wpList_append_fits _ rfl _ _ 42 rfl (w.heap.size + 1) 4 i4 1 Try.underlying42 hi4 hq1 g m (z.L row + 1) _ rfl (World.ownsRow.alloc HO.out _) ⟨wr.heap.size, 0, none⟩ 1 1 [.bool mark] rfl rfl (cell_one_new _ _ _) ?_ (by omega) ?_))
          · intro u hu
            simp only [List.mem_singleton] at hu
            subst hu
            rfl
          intro w3 hown3 hg3
          have hC3 := (HC.out.kept (World.grownBy_alloc _ _ none) (fun _ h => by cases h)).kept hg3 (fun x h => by cases h; exact hg1lt)
          have HO3 : Hid (w3.ownsRow (w.heap.size + 1) 4 1 (.slice (some ⟨g, 0, none⟩) (m + 1) (z.L row + 1)) (m + 1) (boolCells R (m + 1))) := by
            show w3.ownsRow _ _ _ _ _ _
            rw [boolCells_succ, HR.out, putIn_at, ← HR.out]
            exact hown3
          have HC3 := (show Hid _ from hC3)
          clear hown3 hg3 hC3 HC HO
          go_wp2
          go_loopw [11, 13] (fun v i wr => ∃ j : Nat, m ≤ j ∧ j ≤ z.L row ∧ i = .int .i64 j ∧ v = .slice (some ⟨g, 0, none⟩) (j + 1) (z.L row + 1) ∧ CopyAt w wr k k z xs ∧ wr.ownsRow (w.heap.size + 1) 4 1 (.slice (some ⟨g, 0, none⟩) (j + 1) (z.L row + 1)) (j + 1) (boolCells R (j + 1))) (fun _ i _ => z.L row - (intOf i).toNat)
          case atStart => exact ⟨m, Nat.le_refl _, hk0, rfl, rfl, HC3.out, HO3.out⟩
          case round =>
            obtain ⟨j, hmj, hj, rfl, rfl, hC, hown⟩ := hrel
            clear HO3 HC3
            by_cases hjlt : j < z.L row
            · have hjlt' : (j : Int) < (z.L row : Int) := by omega
              have c1 := (HZ.out.later hC.below).row row hrow
              obtain ⟨eA, c2⟩ := (HZ.out.later hC.below).cell row hrow j (by omega)
              rw [eA] at c1
              have HC := (show Hid _ from hC)
              have HO := (show Hid _ from hown)
              clear hC hown eA
              go_wp2_with (at_builtin; go_must (refine wpList_append_fits _ rfl _ _ 42 rfl (w.heap.size + 1) 4 i4 1 Try.underlying42 hi4 hq1 g (j + 1) (z.L row + 1) _ rfl (World.ownsRow.alloc HO.out _) ⟨wr.heap.size, 0, none⟩ 1 1 [.bool (z.B row j)] rfl rfl (cell_one_new _ _ _) ?_ (by omega) ?_))
              · intro u hu
                simp only [List.mem_singleton] at hu
                subst hu
                rfl
              intro w3 hown3 hg3
              have hC3 := (HC.out.kept (World.grownBy_alloc _ _ none) (fun _ h => by cases h)).kept hg3 (fun x h => by cases h; exact hg1lt)
              have HO3 : Hid (w3.ownsRow (w.heap.size + 1) 4 1 (.slice (some ⟨g, 0, none⟩) (j + 1 + 1) (z.L row + 1)) (j + 1 + 1) (boolCells R (j + 1 + 1))) := by
                show w3.ownsRow _ _ _ _ _ _
                rw [boolCells_succ R (j + 1), HR.out, putIn_gt _ _ _ _ hmj, ← HR.out]
                exact hown3
              have HC3 := (show Hid _ from hC3)
              clear hown3 hg3 hC3 HC HO c1 c2
              go_wp2
              go_roundw
              case rel => exact ⟨j + 1, by omega, by omega, by go_num, rfl, HC3.out, HO3.out⟩
              case measure => simp [intOf]; omega
            · obtain rfl : j = z.L row := by omega
              have c1 := (HZ.out.later hC.below).row row hrow
              have hl := hC.own.1
              have c2 : wr.cell? ⟨w.heap.size, row, none⟩ = some (.slice (z.A row) (z.L row) (z.C row)) := (hC.own.cellAt row (by omega)).trans (hC.rows row hrow)
              have c3 : wr.frozen? ⟨w.heap.size, row, none⟩ = false := hC.own.frozenAt row
              have HF : Hid (∀ w', w' = wr.setCell ⟨w.heap.size, row, none⟩ (.slice (some ⟨g, 0, none⟩) (z.L row + 1) (z.L row + 1)) → GridIn w' (some ⟨w.heap.size, 0, none⟩) k (z.put w.heap.size row m mark g) ∧ Below w.heap.size w w') := fun w' h =>
                ⟨hC.done HZ.out hrow hg1lt (by rw [← HR.out]; exact hown) h, by rw [h]; exact hC.below.setCell (Nat.le_refl _) _⟩
              clear hC hl hown
              go_wp2_with fail
              refine (HW.out _ (HF.out _ rfl).2).mono ?_
              rintro e w5 ⟨rfl, hb5⟩
              obtain ⟨hgr, hbl⟩ := HF.out _ rfl
              have hgr5 := hgr.later hb5
              have hb5' := hbl.trans (hb5.mono hbl.size)
              have HG5 := (show Hid _ from hgr5)
              clear hgr hbl hb5 hgr5 HF c2 c3
              go_wp2_with fail
              refine (HP.out g _ HG5.out).mono ?_
              rintro e w6 ⟨rfl, hb6⟩
              have hb6' := hb5'.trans (hb6.mono hb5'.size)
              clear hb6 hb5' HG5
              generalize anyGrid z.L z.B k = a at *
              cases a <;> cases mark
              all_goals
                go_wp2_with fail
                refine (HA.out _ hb6').mono ?_
                rintro e w7 ⟨rfl, rfl⟩
                go_wp2
                go_ret
                exact ⟨rfl, hb6'⟩

set_option maxRecDepth 100000 in
set_option maxHeartbeats 400000 in
theorem law8_out1 (ga : Option Addr) (G Gc : Nat) (row : Int) (at_ : Int) (mark : Bool) (z : Grid) (w : World) (hn : G ≤ maxLen) (hs : ∀ i, i < G → z.L i ≤ maxLen) (hz : GridIn w ga G z)
    (hout : (G ≤ 1048576 ∧ ∀ r, r < G → z.L r < 1048576) → row < 0 ∨ (0 ≤ row ∧ G ≤ row)) :
    Calls Try.prog 8 #[.slice ga G Gc, .int .i64 row, .int .i64 at_, .bool mark] w (TrueNew w) := by
  have HB : Hid (∀ w', w' = w → Calls Try.prog 29 #[.slice ga G Gc, .int .i64 row, .int .i64 at_, .bool mark] w' (BoolRet (fun b => b = true → G ≤ 1048576 ∧ ∀ i, i < G → z.L i < 1048576) w')) := fun w' h => by
    subst h; exact bytesMarks29s ga G Gc z row at_ mark w' hn hs hz
  have HN : Hid (∀ w', w' = w → Calls Try.prog 26 #[.slice ga G Gc] w' (BoolRet (fun _ => True) w')) := fun w' h => by
    subst h; exact marksTooBig_any ga G Gc z w' hn hs hz
  have HO := (show Hid _ from hout)
  have HZ := (show Hid _ from hz)
  have HSS := (show Hid _ from hs)
  clear hout hz hs
  go_enter Try.func8, Try.ntmps8
  go_wp2_with fail
  refine (HB.out _ rfl).mono ?_
  rintro e w' ⟨b, rfl, hb, rfl⟩
  cases b
  · clear hb
    go_wp2
    go_ret
    exact ⟨rfl, Below.refl _ _⟩
  have HCA := (show Hid _ from HO.out (hb rfl))
  clear hb
  go_wp2_with fail
  refine (HN.out _ rfl).mono ?_
  rintro e w' ⟨b, rfl, _, rfl⟩
  cases b
  rotate_left
  · go_wp2
    go_ret
    exact ⟨rfl, Below.refl _ _⟩
  rcases HCA.out with h1 | ⟨h1, h2⟩
  all_goals
    clear HB HN HO HCA HZ HSS
    go_wp2
    go_ret
    exact ⟨rfl, Below.refl _ _⟩
set_option maxRecDepth 100000 in
set_option maxHeartbeats 400000 in
theorem law8_out2 (ga : Option Addr) (G Gc : Nat) (row : Nat) (at_ : Int) (mark : Bool) (z : Grid) (w : World) (hn : G ≤ maxLen) (hs : ∀ i, i < G → z.L i ≤ maxLen) (hz : GridIn w ga G z)
    (hrow : row < G) (hout : (G ≤ 1048576 ∧ ∀ r, r < G → z.L r < 1048576) → at_ < 0 ∨ (0 ≤ at_ ∧ z.L row < at_)) :
    Calls Try.prog 8 #[.slice ga G Gc, .int .i64 row, .int .i64 at_, .bool mark] w (TrueNew w) := by
  have HB : Hid (∀ w', w' = w → Calls Try.prog 29 #[.slice ga G Gc, .int .i64 row, .int .i64 at_, .bool mark] w' (BoolRet (fun b => b = true → G ≤ 1048576 ∧ ∀ i, i < G → z.L i < 1048576) w')) := fun w' h => by
    subst h; exact bytesMarks29s ga G Gc z row at_ mark w' hn hs hz
  have HN : Hid (∀ w', w' = w → Calls Try.prog 26 #[.slice ga G Gc] w' (BoolRet (fun _ => True) w')) := fun w' h => by
    subst h; exact marksTooBig_any ga G Gc z w' hn hs hz
  have HO := (show Hid _ from hout)
  have HZ := (show Hid _ from hz)
  have HSS := (show Hid _ from hs)
  clear hout hz hs
  go_enter Try.func8, Try.ntmps8
  go_wp2_with fail
  refine (HB.out _ rfl).mono ?_
  rintro e w' ⟨b, rfl, hb, rfl⟩
  cases b
  · clear hb
    go_wp2
    go_ret
    exact ⟨rfl, Below.refl _ _⟩
  have HCA := (show Hid _ from HO.out (hb rfl))
  clear hb
  go_wp2_with fail
  refine (HN.out _ rfl).mono ?_
  rintro e w' ⟨b, rfl, _, rfl⟩
  cases b
  rotate_left
  · go_wp2
    go_ret
    exact ⟨rfl, Below.refl _ _⟩
  obtain rfl := HZ.out.addr (by omega)
  have c0 := HZ.out.row row hrow
  have hLr := HSS.out row hrow
  unfold maxLen at hLr
  have d1 : ¬ ((row : Int) < 0) := by omega
  have d2 : ¬ (G ≤ row) := by omega
  have d5 : (row : Int) < (G : Int) := by omega
  rcases HCA.out with h1 | ⟨h1, h2⟩
  all_goals
    clear HB HN HO HCA HZ HSS
    go_wp2
    go_ret
    exact ⟨rfl, Below.refl _ _⟩
theorem law8_any (ga : Option Addr) (G Gc : Nat) (row at_ : Int) (mark : Bool) (z : Grid) (w : World) (hn : G ≤ maxLen) (hs : ∀ i, i < G → z.L i ≤ maxLen) (hz : GridIn w ga G z) :
    Calls Try.prog 8 #[.slice ga G Gc, .int .i64 row, .int .i64 at_, .bool mark] w (TrueNew w) := by
  by_cases hr : 0 ≤ row ∧ row < G
  · obtain ⟨r, rfl⟩ := Int.eq_ofNat_of_zero_le hr.1
    by_cases hall : (G ≤ 1048576 ∧ ∀ i, i < G → z.L i < 1048576) ∧ (0 ≤ at_ ∧ at_ ≤ z.L r)
    · obtain ⟨⟨h1, h2⟩, h3, h4⟩ := hall
      obtain ⟨k, rfl⟩ := Int.eq_ofNat_of_zero_le h3
      exact law8_mid ga G Gc r k mark z w h1 h2 hz (by omega) (by omega)
    · refine law8_out2 ga G Gc r at_ mark z w hn hs hz (by omega) (fun h => ?_)
      have : ¬ (0 ≤ at_ ∧ at_ ≤ z.L r) := fun h' => hall ⟨h, h'⟩
      omega
  · exact law8_out1 ga G Gc row at_ mark z w hn hs hz (fun _ => by omega)

theorem walk8 (a0 : Option Addr) (n c : Nat) (a1 a2 : Int) (a3 : Bool) (z : Grid) (w : World) (h : GridArg w a0 n c z) (_w1 : (Lit.int .i64 a1).wf = true) (_w2 : (Lit.int .i64 a2).wf = true) :
    Calls Try.prog 8 #[.slice a0 n c, .int .i64 a1, .int .i64 a2, .bool a3] w (TrueNew w) :=
  law8_any a0 n c a1 a2 a3 z w h.len h.lens h.grid

end Go.Proofs.Qxb6619656a
