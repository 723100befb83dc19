/-
  Contracts of requestText (31) and ZZRequestText (12).
-/
import Derived.Test.Qxb6619656aVals
import Derived.Deep.Heap
namespace Go.Proofs.Qxb6619656a
open Go.RowKit
open Go.Maps (Keyed)

theorem key_string_inv {key : Value} {l : Lit} (h : keyOf Try.prog 9 key = some l) : ∃ x : ByteArray, key = .string x ∧ l = kl x := by
  obtain ⟨s, h1, h2, _⟩ := Go.WideMaps.string_of_keyOf Try.underlying9 h
  exact ⟨s, h1, h2⟩

abbrev mkV (c : Option Addr × Nat × Nat) : Value := .slice c.1 c.2.1 c.2.2
theorem Rv_inv {v : Value} {y : DataW Value × List MemPlace} (h : Rv v = some y) : ∃ c, v = mkV c := by
  unfold Rv at h
  split at h
  · exact ⟨(_, _, _), rfl⟩
  · cases h
theorem Rv_held {c : Option Addr × Nat × Nat} {y : DataW Value × List MemPlace} (h : Rv (mkV c) = some y) : y.1 = .held (mkV c) := by
  simp only [Rv, Option.some.injEq] at h
  rw [← h]

theorem nodup_len : ∀ (l I : List Nat), l.Nodup → (∀ x, x ∈ l → x ∈ I) → l.length ≤ I.length
  | [], _, _, _ => by simp
  | a :: l, I, h, hs => by
    have ha := hs a (by simp)
    have h2 := nodup_len l (I.erase a) (List.nodup_cons.1 h).2 (fun x hx => (List.mem_erase_of_ne (fun e : x = a => (List.nodup_cons.1 h).1 (by rw [← e]; exact hx))).2 (hs x (by simp [hx])))
    rw [List.length_erase_of_mem ha] at h2
    have := List.length_pos_of_mem ha
    simp only [List.length_cons]
    omega

/-- THE LOOP OVER THE CONTEXT, UNDER WAY: 'done' are the places whose values have been appended. -/
structure ReqAt (w wr : World) (kf : Nat → ByteArray) (z : SGrid) (I : List Nat) (bm r m : Nat) (D : DataW Value) (pre : List ByteArray) (v : Value) (left : Lit → Bool) (cnt : Nat) (done : List Nat) : Prop where
  rg : wr.ranges Try.prog 9 Rv bm r m D left cnt
  has : ∀ l, left l = true → Maps.has D l = true
  own : OwnStrs wr w.heap.size v (pre ++ valsOf z done)
  nodup : done.Nodup
  mem : ∀ i, i ∈ done ↔ i ∈ I ∧ left (kl (kf i)) = false
  below : Below w.heap.size w wr

theorem own_not_iter {wr : World} {bm r m cnt base : Nat} {D : DataW Value} {left : Lit → Bool} {v : Value} {xs : List ByteArray} (h : wr.ranges Try.prog 9 Rv bm r m D left cnt) (ho : OwnStrs wr base v xs) : some bm ≠ v.ownBlock ∧ some r ≠ v.ownBlock := by
  obtain ⟨es, clock, since, seen, c0, hb, _, _, _, hr, _⟩ := h
  rcases ho.2 with ⟨rfl, _⟩ | ⟨g, cap, cur, rfl, _, hg, _⟩
  · simp [Value.ownBlock]
  · simp only [Value.ownBlock, ne_eq, Option.some.injEq]
    constructor
    · intro e; subst e; rw [hb] at hg; cases hg
    · intro e; subst e; rw [hr] at hg; cases hg

/-- One entry has come: which place it is. -/
theorem req_which {w wr : World} {kf : Nat → ByteArray} {z : SGrid} {I : List Nat} {bm r m : Nat} {D : DataW Value} {pre : List ByteArray} {v : Value} {left : Lit → Bool} {cnt : Nat} {done : List Nat}
    (h : ReqAt w wr kf z I bm r m D pre v left cnt done) (hD1 : ∀ l, Maps.has D l = true ↔ ∃ i, i ∈ I ∧ l = kl (kf i)) (hD2 : ∀ i, i ∈ I → ∀ zd, D.atKey (kl (kf i)) zd = .held (z.at_ i))
    {x : ByteArray} {c : Option Addr × Nat × Nat} {y : DataW Value × List MemPlace} (hl : left (kl x) = true) (hv : Rv (mkV c) = some y) (hat : ∀ zd, D.atKey (kl x) zd = y.1) :
    ∃ i, i ∈ I ∧ i ∉ done ∧ x = kf i ∧ c = (z.A i, z.L i, z.C i) := by
  obtain ⟨i, hi, hk⟩ := (hD1 _).1 (h.has _ hl)
  have hx := kl_inj hk
  refine ⟨i, hi, fun hd => ?_, hx, ?_⟩
  · have := ((h.mem i).1 hd).2
    rw [← hk, hl] at this
    cases this
  · have h1 := hD2 i hi .nil
    rw [← hk, hat .nil, Rv_held hv] at h1
    simp only [DataW.held.injEq, mkV, SGrid.at_, Value.slice.injEq] at h1
    obtain ⟨c1, c2, c3⟩ := c
    simp only at h1
    rw [h1.1, h1.2.1, h1.2.2]

/-- .. and what holds when its values have been appended. -/
theorem req_step {w wr w1 w2 : World} {kf : Nat → ByteArray} {z : SGrid} {I : List Nat} {bm r m : Nat} {D : DataW Value} {pre : List ByteArray} {v v' : Value} {left : Lit → Bool} {cnt cnt1 : Nat} {done : List Nat}
    (h : ReqAt w wr kf z I bm r m D pre v left cnt done) (hinj : ∀ i j, i ∈ I → j ∈ I → kf i = kf j → i = j) {i : Nat} (hi : i ∈ I) (hnd : i ∉ done) (hsz : (kf i).size ≤ maxLen)
    (hrg : w1.ranges Try.prog 9 Rv bm r m D (fun l => left l && !l.sameKey (kl (kf i))) cnt1) (hg1 : wr.grownBy w1 (some r)) (hr : w.heap.size ≤ r)
    (ho : OwnStrs w2 w.heap.size v' (pre ++ valsOf z done ++ vals z i)) (hg2 : w1.grownBy w2 v.ownBlock) :
    ReqAt w w2 kf z I bm r m D pre v' (fun l => left l && !l.sameKey (kl (kf i))) cnt1 (done ++ [i]) := by
  have hn := own_not_iter h.rg h.own
  have hn1 : OwnStrs w1 w.heap.size v (pre ++ valsOf z done) := h.own.kept hg1 (by
    right; intro e; exact hn.2 e.symm)
  refine ⟨hrg.kept hg2 hn.1 hn.2, fun l hl => h.has l (by simp at hl; exact hl.1), by rw [valsOf_snoc, ← List.append_assoc]; exact ho, ?_, fun j => ?_, ?_⟩
  · rw [List.nodup_append]
    exact ⟨h.nodup, by simp, fun a ha b hb => by simp at hb; subst hb; intro e; subst e; exact hnd ha⟩
  · rw [List.mem_append, List.mem_singleton, h.mem j]
    constructor
    · rintro (⟨h1, h2⟩ | rfl)
      · exact ⟨h1, by simp [h2]⟩
      · exact ⟨hi, by rw [WideAt.sameKey_self (kl_key hsz)]; simp⟩
    · rintro ⟨h1, h2⟩
      by_cases e : j = i
      · exact .inr e
      · left
        refine ⟨h1, ?_⟩
        rw [Maps.sameKey_ne (fun e' => e (hinj j i h1 hi (kl_inj e')))] at h2
        simpa using h2
  · exact (h.below.grown hg1 h.below.size (fun x hx => by cases hx; exact hr)).grown hg2 (Nat.le_trans h.below.size hg1.size) (fun x hx => (hn1.lt x hx).1)

theorem own_two (w : World) (o : Obj) (a b : ByteArray) : OwnStrs ((w.alloc o).alloc (.cells #[.string a, .string b] 9)) w.heap.size (.slice (some ⟨w.heap.size + 1, 0, none⟩) 2 2) [a, b] := by
  have h := World.ownsRow_lit (base := w.heap.size) (e := 9) (size := 1) (w.alloc o) #[.string a, .string b] 2 (by simp) (by decide) rfl
  rw [Go.Deep.nblk_alloc] at h
  exact h

theorem cell_third (w : World) (o1 o2 : Obj) (x : Value) (e : TypeId) : (((w.alloc o1).alloc o2).alloc (.cells #[x] e)).cell? ((⟨w.heap.size + 1 + 1, 0, none⟩ : Addr).add 0) = some x := by
  have h := cell_one_new ((w.alloc o1).alloc o2) x e 0 x rfl
  rw [Go.Deep.nblk_alloc, Go.Deep.nblk_alloc] at h
  exact h

theorem box_cell (w : World) (cs : Array Value) (t : TypeId) (o2 o3 : Obj) (i : Nat) (x : Value) (h : cs[i]? = some x) : (((w.alloc (.cells cs t)).alloc o2).alloc o3).cell? ⟨w.heap.size, i, none⟩ = some x := by
  rw [World.cell?_alloc_lt _ _ _ (by rw [Go.Deep.nblk_alloc, Go.Deep.nblk_alloc]; simp only; omega), World.cell?_alloc_lt _ _ _ (by rw [Go.Deep.nblk_alloc]; simp only; omega), World.cell?_alloc_at _ _ _ _ rfl]
  exact h

theorem req_start {w W w0 : World} {kf : Nat → ByteArray} {z : SGrid} {I : List Nat} {bm m : Nat} {D : DataW Value} {pre : List ByteArray} {v : Value} (hD1 : ∀ l, Maps.has D l = true ↔ ∃ i, i ∈ I ∧ l = kl (kf i))
    (hrg : w0.ranges Try.prog 9 Rv bm W.heap.size m D (Maps.has D) (Maps.size D)) (hg : W.grownBy w0 none) (ho : OwnStrs W w.heap.size v pre) (hb : Below w.heap.size w W) :
    ReqAt w w0 kf z I bm W.heap.size m D pre v (Maps.has D) (Maps.size D) [] :=
  ⟨hrg, fun l h => h, by
    show OwnStrs _ _ _ (pre ++ [])
    rw [List.append_nil]
    exact World.ownsRow.kept ho hg (by cases v.ownBlock <;> simp), List.nodup_nil, (fun i => by
    constructor
    · intro h; cases h
    · rintro ⟨h1, h2⟩
      rw [(hD1 _).2 ⟨i, h1, rfl⟩] at h2
      cases h2), hb.grown hg hb.size (fun x hx => by cases hx)⟩

/-- The texts come back: pre, then the values of the places in I, in some order; nothing old has turned. -/
def ReqRet (pre : List ByteArray) (z : SGrid) (I : List Nat) (w : World) (e : Ending) (w' : World) : Prop := ∃ v ord, e = .returned v ∧ OwnStrs w' w.heap.size v (pre ++ valsOf z ord) ∧ ord.Perm I ∧ Below w.heap.size w w'

/-- The principal's value, where there is one. -/
def preOf (act res : ByteArray) (p : Option ByteArray) : List ByteArray := [act, res] ++ p.toList

set_option maxRecDepth 100000 in
set_option maxHeartbeats 400000 in
theorem reqText_map (act res : ByteArray) (po : Option ByteArray) (pp : Option Addr) (kf : Nat → ByteArray) (z : SGrid) (I : List Nat) (bm m : Nat) (va : Option Addr) (vn : Nat) (w : World) (hI : I.length ≤ 1048576) (hL : ∀ i, z.L i ≤ 1048576) (hIn : I.Nodup)
    (hinj : ∀ i j, i ∈ I → j ∈ I → kf i = kf j → i = j) (hsz : ∀ i, i ∈ I → (kf i).size ≤ maxLen) (hz : SGridIn w va vn z) (hM : CtxMap w bm m kf z I)
    (hp : match po with | none => pp = none | some v => ∃ pb, pp = some ⟨pb, 0, none⟩ ∧ w.cell? ⟨pb, 1, none⟩ = some (.string v)) :
    Calls Try.prog 31 #[.agg #[.pointer pp, .string act, .string res, .map (some bm)]] w (ReqRet (preOf act res po) z I w) := by
  obtain ⟨D, hD0, hD1, hD2⟩ := hM
  have HD0 := (show Hid _ from hD0)
  have HD1 := (show Hid _ from hD1)
  have HD2 := (show Hid _ from hD2)
  have HZ := (show Hid _ from hz)
  have HL := (show Hid _ from hL)
  have HI := (show Hid _ from hinj)
  have HSZ := (show Hid _ from hsz)
  clear hD0 hD1 hD2 hz hL hinj hsz
  cases po with
  | none =>
    subst hp
    go_enter Try.func31, Try.ntmps31
    go_wp2_with (at_range; go_must (refine wpList_range_own _ rfl _ 29 rfl 9 22 law9 Try.underlying29 Rv bm m D rfl (World.ownsMap.alloc (World.ownsMap.alloc HD0.out _) _) ?_); intro w0 hrg0 hg0 hs0)
    go_frame
    have hR0 := req_start (w := w) (kf := kf) (z := z) (I := I) (pre := preOf act res none) HD1.out hrg0 hg0 (own_two w _ act res) (((Below.refl _ _).alloc (Nat.le_refl _) _).alloc (by simp) _)
    simp only [Go.Deep.nblk_alloc] at hR0 ⊢
    clear hrg0 hg0 hs0
    obtain ⟨r, hr⟩ : ∃ r, r = w.heap.size + 1 + 1 := ⟨_, rfl⟩
    have hwr : w.heap.size ≤ r := by omega
    rw [← hr] at hR0 ⊢
    clear hr
    go_loopw [3] (fun v wr => ∃ left cnt done, ReqAt w wr kf z I bm r m D (preOf act res none) v left cnt done) (fun _ wr => wr.rangeLeft bm r)
    case atStart => exact ⟨_, _, _, hR0⟩
    case round =>
      obtain ⟨left, cnt, done, hR⟩ := hrel
      clear hR0
      have HR := (show Hid _ from hR)
      clear hR
      go_wp2_with (at_next; go_must (refine wpList_next_ranges _ rfl _ rfl 9 law9 Rv Value.string mkV (fun key l hk => by obtain ⟨x, hx, _⟩ := key_string_inv hk; exact ⟨x, hx⟩) (fun v y hv => Rv_inv hv) bm _ m D left cnt rfl HR.out.rg ?_ ?_))
      · intro hc0 hl0
        go_wp2
        go_ret
        exact ⟨_, done, rfl, HR.out.own, (List.perm_ext_iff_of_nodup HR.out.nodup hIn).2 (fun i => by rw [HR.out.mem i, hl0]; simp), HR.out.below⟩
      · intro x ca cl cc l yd yp w1 cnt1 hkey hlk hv hat hrg1 hlt1 hg1 hs1 hen
        obtain ⟨x', hx', hl'⟩ := key_string_inv hkey
        cases hx'
        subst hl'
        obtain ⟨i, hi, hnd, hxi, hc⟩ := req_which HR.out HD1.out HD2.out hlk hv hat
        simp only [Prod.mk.injEq] at hc
        obtain ⟨rfl, rfl, rfl⟩ := hc
        subst hxi
        have HR1 := (show Hid _ from hrg1)
        have HG1 := (show Hid _ from hg1)
        have hn := own_not_iter HR.out.rg HR.out.own
        have HO1 : Hid (OwnStrs w1 w.heap.size u3 (preOf act res none ++ valsOf z done)) := World.ownsRow.kept HR.out.own hg1 (by
          right; intro e; exact hn.2 e.symm)
        have HC1 : Hid (SlStr w1 (z.A i) (z.L i) (z.rb i) (z.ro i) (z.S i)) := ((HZ.out.later (HR.out.below.grown hg1 HR.out.below.size (fun x hx => by cases hx; exact hwr)) (Nat.le_refl _)).cell i)
        have hsz1 := HR.out.below.size
        have hLi := HL.out i
        have HLen : Hid ((preOf act res none ++ valsOf z done).length + z.L i ≤ 8796093022208) := by
          have h1 := valsOf_len z 1048576 HL.out done
          have h2 : done.length ≤ I.length := nodup_len done I HR.out.nodup (fun j hj => ((HR.out.mem j).1 hj).1)
          show _ ≤ _
          rw [List.length_append]
          have h3 : (preOf act res none).length ≤ 3 := by simp [preOf]
          have h4 : done.length * 1048576 ≤ 1048576 * 1048576 := Nat.mul_le_mul_right _ (by omega)
          omega
        clear hkey hlk hv hat hrg1 hg1 hn
        go_wp2_with (at_builtin; go_must (refine wpList_app_strs _ rfl _ _ rfl w.heap.size _ _ rfl HO1.out (z.A i) (z.L i) (z.C i) (vals z i) rfl (vals_len z i) ?_ ?_ HLen.out (by rw [hs1]; exact hsz1) ?_))
        · exact HZ.out.bare i
        · intro ad had j y hy
          obtain ⟨hj, rfl⟩ := vals_get hy
          have e1 := HC1.out.addr (by omega)
          rw [had] at e1
          cases e1
          rw [Addr.add_lit]
          exact HC1.out.cell j hj
        intro v' w2 hO2 hg2
        have hR2 := req_step HR.out HI.out hi hnd (HSZ.out i hi) HR1.out HG1.out hwr (by rw [List.append_assoc]; exact (List.append_assoc _ _ _ ▸ hO2)) hg2
        have HR2 := (show Hid _ from hR2)
        clear hO2 hg2 hR2
        go_wp2
        go_roundw
        case rel => exact ⟨_, _, _, HR2.out⟩
        case measure => rw [HR2.out.rg.left_eq, HR.out.rg.left_eq]; exact hlt1
  | some pv =>
    obtain ⟨pb, rfl, hpc⟩ := hp
    have hpb : pb < w.heap.size := World.block_lt_of_cell? _ _ hpc
    have hpc2 : ∀ o, (w.alloc o).cell? ⟨pb, 1, none⟩ = some (.string pv) := fun o => (World.cell?_alloc_lt _ _ _ hpb).trans hpc
    have hpc3 : ∀ o o', ((w.alloc o).alloc o').cell? ⟨pb, 1, none⟩ = some (.string pv) := fun o o' => (World.cell?_alloc_lt _ _ _ (by simp; omega)).trans (hpc2 o)
    go_enter Try.func31, Try.ntmps31
    go_wp2_with (first
      | (at_builtin; go_must (refine wpList_app_strs _ rfl _ _ rfl w.heap.size _ [act, res] rfl (OwnStrs.alloc (own_two w _ act res) _) (some ⟨w.heap.size + 1 + 1, 0, none⟩) 1 1 [pv] rfl rfl ?_ ?_ (by simp) ?_ ?_)))
    · intro h; cases h
    · intro ad had j y hy
      cases had
      have hq : j = 0 := by have := (List.getElem?_eq_some_iff.1 hy).1; simpa using this
      subst hq
      simp at hy
      subst hy
      exact cell_third w _ _ _ _
    · simp; omega
    intro v3 w3 hO3 hg3
    have hbm : bm < w.heap.size := World.ownsMap.lt HD0.out
    have cB : w3.cell? ⟨w.heap.size, 3, none⟩ = some (.map (some bm)) := hg3.cell (box_cell w _ _ _ _ 3 _ rfl) (by simp [Value.ownBlock])
    have hb3 : Below w.heap.size w w3 := ((((Below.refl w.heap.size w).alloc (Nat.le_refl _) _).alloc (by simp) _).alloc (by simp; omega) _).grown hg3 (by simp; omega) (fun x hx => by simp [Value.ownBlock] at hx; omega)
    have HD3 : Hid (w3.ownsMap Try.prog 9 Rv bm m D) := World.ownsMap.kept (World.ownsMap.alloc (World.ownsMap.alloc (World.ownsMap.alloc HD0.out _) _) _) hg3 (by simp [Value.ownBlock]; omega)
    have HO3 : Hid (OwnStrs w3 w.heap.size v3 (preOf act res (some pv))) := hO3
    clear hO3 hg3 hpc hpc2 hpc3 HD0
    go_wp2_with (at_range; go_must (refine wpList_range_own _ rfl _ 29 rfl 9 22 law9 Try.underlying29 Rv bm m D rfl HD3.out ?_); intro w0 hrg0 hg0 hs0)
    go_frame
    have hR0 := req_start (w := w) (kf := kf) (z := z) (I := I) (pre := preOf act res (some pv)) HD1.out hrg0 hg0 HO3.out hb3
    clear hrg0 hg0 hs0 HO3
    obtain ⟨r, hr⟩ : ∃ r, r = w3.heap.size := ⟨_, rfl⟩
    have hwr : w.heap.size ≤ r := by rw [hr]; exact hb3.size
    rw [← hr] at hR0 ⊢
    clear hr
    go_loopw [3] (fun v wr => ∃ left cnt done, ReqAt w wr kf z I bm r m D (preOf act res (some pv)) v left cnt done) (fun _ wr => wr.rangeLeft bm r)
    case atStart => exact ⟨_, _, _, hR0⟩
    case round =>
      obtain ⟨left, cnt, done, hR⟩ := hrel
      clear hR0
      have HR := (show Hid _ from hR)
      clear hR
      go_wp2_with (at_next; go_must (refine wpList_next_ranges _ rfl _ rfl 9 law9 Rv Value.string mkV (fun key l hk => by obtain ⟨x, hx, _⟩ := key_string_inv hk; exact ⟨x, hx⟩) (fun v y hv => Rv_inv hv) bm _ m D left cnt rfl HR.out.rg ?_ ?_))
      · intro hc0 hl0
        go_wp2
        go_ret
        exact ⟨_, done, rfl, HR.out.own, (List.perm_ext_iff_of_nodup HR.out.nodup hIn).2 (fun i => by rw [HR.out.mem i, hl0]; simp), HR.out.below⟩
      · intro x ca cl cc l yd yp w1 cnt1 hkey hlk hv hat hrg1 hlt1 hg1 hs1 hen
        obtain ⟨x', hx', hl'⟩ := key_string_inv hkey
        cases hx'
        subst hl'
        obtain ⟨i, hi, hnd, hxi, hc⟩ := req_which HR.out HD1.out HD2.out hlk hv hat
        simp only [Prod.mk.injEq] at hc
        obtain ⟨rfl, rfl, rfl⟩ := hc
        subst hxi
        have HR1 := (show Hid _ from hrg1)
        have HG1 := (show Hid _ from hg1)
        have hn := own_not_iter HR.out.rg HR.out.own
        have HO1 : Hid (OwnStrs w1 w.heap.size u3 (preOf act res (some pv) ++ valsOf z done)) := World.ownsRow.kept HR.out.own hg1 (by
          right; intro e; exact hn.2 e.symm)
        have HC1 : Hid (SlStr w1 (z.A i) (z.L i) (z.rb i) (z.ro i) (z.S i)) := ((HZ.out.later (HR.out.below.grown hg1 HR.out.below.size (fun x hx => by cases hx; exact hwr)) (Nat.le_refl _)).cell i)
        have hsz1 := HR.out.below.size
        have hLi := HL.out i
        have HLen : Hid ((preOf act res (some pv) ++ valsOf z done).length + z.L i ≤ 8796093022208) := by
          have h1 := valsOf_len z 1048576 HL.out done
          have h2 : done.length ≤ I.length := nodup_len done I HR.out.nodup (fun j hj => ((HR.out.mem j).1 hj).1)
          show _ ≤ _
          rw [List.length_append]
          have h3 : (preOf act res (some pv)).length ≤ 3 := by simp [preOf]
          have h4 : done.length * 1048576 ≤ 1048576 * 1048576 := Nat.mul_le_mul_right _ (by omega)
          omega
        clear hkey hlk hv hat hrg1 hg1 hn
        go_wp2_with (at_builtin; go_must (refine wpList_app_strs _ rfl _ _ rfl w.heap.size _ _ rfl HO1.out (z.A i) (z.L i) (z.C i) (vals z i) rfl (vals_len z i) ?_ ?_ HLen.out (by rw [hs1]; exact hsz1) ?_))
        · exact HZ.out.bare i
        · intro ad had j y hy
          obtain ⟨hj, rfl⟩ := vals_get hy
          have e1 := HC1.out.addr (by omega)
          rw [had] at e1
          cases e1
          rw [Addr.add_lit]
          exact HC1.out.cell j hj
        intro v' w2 hO2 hg2
        have hR2 := req_step HR.out HI.out hi hnd (HSZ.out i hi) HR1.out HG1.out hwr (by rw [List.append_assoc]; exact (List.append_assoc _ _ _ ▸ hO2)) hg2
        have HR2 := (show Hid _ from hR2)
        clear hO2 hg2 hR2
        go_wp2
        go_roundw
        case rel => exact ⟨_, _, _, HR2.out⟩
        case measure => rw [HR2.out.rg.left_eq, HR.out.rg.left_eq]; exact hlt1

end Go.Proofs.Qxb6619656a
