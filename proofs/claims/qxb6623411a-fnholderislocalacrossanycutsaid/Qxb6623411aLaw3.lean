/-
  The walk of FnHolderIsLocalAcrossAnyCut (3).
-/
import Derived.Test.Qxb6623411aPool
import Derived.Test.Qxb6623411aBytes
namespace Go.Proofs.Qxb6623411a
open Go.RowKit

theorem ptr_same (w : World) (p : Option Addr) : (binOp .eql 28 (.pointer p) (.pointer p)).run Try.prog w = .ok (.bool true) w := by
  cases p with
  | none => rw [nil_eql]; rfl
  | some a =>
    obtain ⟨j, hj, _⟩ := Option.map_eq_some_iff.1 Try.info41
    exact run_eql_ptr_same w a Try.underlying28 hj

theorem slice_front (g n cut : Nat) (h : cut ≤ n) (w : World) : (Instr.slice 27 (.slice (some ⟨g, 0, none⟩) n n) none (some (.int .i64 (cut : Int))) (some (.int .i64 (cut : Int)))).run Try.prog w = .ok (.slice (some ⟨g, 0, none⟩) cut cut) w := by
  have h1 := run_slice_hm (P := Try.prog) (w := w) 27 (some ⟨g, 0, none⟩) n n (by kernel_rfl) .i64 .i64 (cut : Int) (cut : Int) (by omega) (by omega) (by omega)
  rw [h1]
  have h2 : (sizeOf (Try.prog.elem 27)).run Try.prog w = .ok 1 w := by kernel_rfl
  rw [h2]
  simp only [Result.andThen, sliced, Int.toNat_natCast, Nat.zero_mul, Nat.sub_zero, Option.map_some, Addr.add_lit]
  split <;> rfl

theorem slice_back (g m n cut : Nat) (h : m + cut = n) : ∃ s : Option Addr, (0 < m → s = some ⟨g, cut, none⟩) ∧ ∀ w, (Instr.slice 27 (.slice (some ⟨g, 0, none⟩) n n) (some (.int .i64 (cut : Int))) none none).run Try.prog w = .ok (.slice s m m) w := by
  refine ⟨if n = cut then some ⟨g, 0, none⟩ else some ⟨g, cut, none⟩, fun h0 => if_neg (by omega), fun w => ?_⟩
  have h1 := run_slice_l (P := Try.prog) (w := w) 27 (some ⟨g, 0, none⟩) n n (by kernel_rfl) .i64 (cut : Int) (by omega) (by omega)
  rw [h1]
  have h2 : (sizeOf (Try.prog.elem 27)).run Try.prog w = .ok 1 w := by kernel_rfl
  rw [h2]
  simp only [Result.andThen, sliced, Int.toNat_natCast, Nat.mul_one, Option.map_some]
  rw [show n - cut = m by omega]
  by_cases e : n = cut
  · simp [e]
  · simp [e, Addr.add_lit]

/-- What the law answers: true, and nothing old has turned. -/
def Told (w : World) (e : Ending) (w' : World) : Prop := e = .returned (.bool true) ∧ Below w.heap.size w w'

theorem Told.same (w : World) : Told w (.returned (.bool true)) w := ⟨rfl, Below.refl _ _⟩

def ptrAt (xs : List Value) (i : Nat) : Option Addr := match xs[i]? with | some (.pointer q) => q | _ => none

/-- The pool and the row of servers, k of them laid. -/
structure Built (w wr : World) (n k : Nat) (xs : List Value) : Prop where
  pool : PtrMap (w.heap.size + 2) wr w.heap.size k
  row : wr.ownsRow (w.heap.size + 1) 28 1 (.slice (some ⟨w.heap.size + 1, 0, none⟩) n n) n xs
  ptr : ∀ j, j < k → xs[j]? = some (.pointer (ptrAt xs j)) ∧ PtrOk (w.heap.size + 2) wr (ptrAt xs j)
  size : w.heap.size + 2 ≤ wr.heap.size
  bel : Below w.heap.size w wr

theorem Built.step {w wr w2 : World} {n k : Nat} {xs : List Value} {q : Option Addr} (h : Built w wr n k xs) (hk : k < n) (hM2 : PtrMap (w.heap.size + 2) w2 w.heap.size (k + 1)) (hq2 : PtrOk (w.heap.size + 2) w2 q) (hg2 : wr.grownBy w2 (some w.heap.size)) :
    (∃ v, w2.cell? ⟨w.heap.size + 1, k, none⟩ = some v) ∧ w2.frozen? ⟨w.heap.size + 1, k, none⟩ = false ∧ Built w (w2.setCell ⟨w.heap.size + 1, k, none⟩ (.pointer q)) n (k + 1) (xs.set k (.pointer q)) := by
  have hown2 : w2.ownsRow (w.heap.size + 1) 28 1 (.slice (some ⟨w.heap.size + 1, 0, none⟩) n n) n xs := h.row.kept hg2 (by simp [Value.ownBlock])
  have hlen := hown2.1
  have hkl : k < xs.length := by omega
  obtain ⟨h5, h6⟩ := hown2.stored k (.pointer q)
  have hr : ∀ i, some (w.heap.size + 1) = some i → i < w.heap.size + 2 := fun i e => by cases e; omega
  have hr2 : ∀ i, some w.heap.size = some i → i < w.heap.size + 2 := fun i e => by cases e; omega
  refine ⟨⟨xs[k], ?_⟩, hown2.frozenAt k, ⟨hM2.kept h6 (by simp) hr, h5, fun j hj => ?_, Nat.le_trans h.size (Nat.le_trans hg2.size h6.size), ?_⟩⟩
  · rw [hown2.cellAt k (by omega)]
    exact List.getElem?_eq_getElem hkl
  · by_cases e : j = k
    · subst e
      have e1 : (xs.set j (.pointer q))[j]? = some (.pointer q) := List.getElem?_set_self hkl
      have e2 : ptrAt (xs.set j (.pointer q)) j = q := by simp only [ptrAt, e1]
      rw [e2]
      exact ⟨e1, hq2.grown h6 hr⟩
    · have e1 : (xs.set k (.pointer q))[j]? = xs[j]? := List.getElem?_set_ne (fun h => e h.symm)
      have e2 : ptrAt (xs.set k (.pointer q)) j = ptrAt xs j := by simp only [ptrAt, e1]
      obtain ⟨p1, p2⟩ := h.ptr j (by omega)
      rw [e2, e1]
      exact ⟨p1, (p2.grown hg2 hr2).grown h6 hr⟩
  · exact (h.bel.grown hg2 (by have := h.size; omega) (fun i e => by cases e; omega)).grown h6 (by have := h.size; have := hg2.size; omega) (fun i e => by cases e; omega)

/-- All laid: the row reads as its pointers. -/
theorem Built.ptrs {w wr w2 : World} {n : Nat} {xs : List Value} (h : Built w wr n n xs) (hg2 : wr.grownBy w2 (some w.heap.size)) : PtrsIn (w.heap.size + 2) w2 (some ⟨w.heap.size + 1, 0, none⟩) n (w.heap.size + 1) 0 (ptrAt xs) :=
  ⟨fun _ => rfl, fun i hi => by
    rw [Nat.zero_add]
    exact hg2.cell ((h.row.cellAt i (by omega)).trans (h.ptr i hi).1) (by simp), fun i hi => (h.ptr i hi).2.grown hg2 (fun i e => by cases e; omega)⟩

/-- Three records in new blocks. -/
theorem recs (w2 : World) (c1 c2 c3 : Array Value) : ∃ w3, ((w2.alloc (.cells c1 32)).alloc (.cells c2 32)).alloc (.cells c3 32) = w3 ∧ Below w2.heap.size w2 w3 ∧
    w3.cell? ⟨w2.heap.size, 0, none⟩ = c1[0]? ∧ w3.cell? ⟨w2.heap.size + 1, 0, none⟩ = c2[0]? ∧ w3.cell? ⟨w2.heap.size + 1 + 1, 0, none⟩ = c3[0]? := by
  refine ⟨_, rfl, (((Below.refl _ _).alloc (Nat.le_refl _) _).alloc (by simp) _).alloc (by simp; omega) _, ?_, ?_, ?_⟩
  · rw [World.cell?_alloc_past _ _ _ (by simp; omega), World.cell?_alloc_past _ _ _ (by simp), World.cell?_alloc_at _ _ _ _ rfl]
  · rw [World.cell?_alloc_past _ _ _ (by simp), World.cell?_alloc_at _ _ _ _ (by simp)]
  · rw [World.cell?_alloc_at _ _ _ _ (by simp)]

theorem PtrsIn.front {B : Nat} {w : World} {a : Option Addr} {n gb go : Nat} {p : Nat → Option Addr} (h : PtrsIn B w a n gb go p) (cut : Nat) (hc : cut ≤ n) : PtrsIn B w a cut gb go p :=
  ⟨fun h0 => h.addr (by omega), fun i hi => h.cell i (by omega), fun i hi => h.ok i (by omega)⟩

theorem PtrsIn.back {B : Nat} {w : World} {a s : Option Addr} {n m gb cut : Nat} {p : Nat → Option Addr} (h : PtrsIn B w a n gb 0 p) (hc : m + cut = n) (hs : 0 < m → s = some ⟨gb, cut, none⟩) : PtrsIn B w s m gb cut (fun i => p (cut + i)) :=
  ⟨hs, fun i hi => by have := h.cell (cut + i) (by omega); rwa [Nat.zero_add] at this, fun i hi => h.ok (cut + i) (by omega)⟩

theorem Try.info28 : (Try.prog.info? 28).map (fun i => (i.zero, i.size, i.bytes)) = some (some (.pointer none), 1, 8) := by kernel_rfl

set_option maxRecDepth 100000 in
set_option maxHeartbeats 4000000 in
theorem walk3 (ia : Option Addr) (n ic : Nat) (x cut : Int) (ba : Option Addr) (bn bc : Nat) (u v : Int) (da : Option Addr) (dn dc : Nat) (zi : Ints) (zb zd : Strs) (w : World)
    (hi : IntsIn w ia n ic zi) (hx : (Lit.int .i64 x).wf = true) (hcut : (Lit.int .i64 cut).wf = true) (hb : StrsIn w ba bn bc zb) (_hu : (Lit.int .u64 u).wf = true) (_hv : (Lit.int .u64 v).wf = true) (hd : StrsIn w da dn dc zd) :
    Calls Try.prog 3 #[.slice ia n ic, .int .i64 x, .int .i64 cut, .slice ba bn bc, .int .u64 u, .int .u64 v, .slice da dn dc] w (Told w) := by
  have HBY : Hid (Calls Try.prog 4 #[.slice ia n ic, .int .i64 x, .int .i64 cut, .slice ba bn bc, .int .u64 u, .int .u64 v, .slice da dn dc] w (BoolRet w)) := bytes_any ia n ic x cut ba bn bc u v da dn dc zb zd w hi.len hb hd
  have hin := hi.len
  have hbn := hb.len
  have hdn := hd.len
  unfold maxLen at hin hbn hdn
  have HI := (show Hid _ from hi)
  have HX := (show Hid _ from hx)
  have HB := (show Hid _ from hb)
  have HD := (show Hid _ from hd)
  clear hi hx hb hd _hu _hv
  obtain ⟨i0, hj, hz0, hz1, hz2⟩ := info_parts Try.info28
  go_enter Try.func3, Try.ntmps3
  go_wp2_with fail
  go_at_call 4
  refine HBY.out.mono ?_
  rintro e w' ⟨b, rfl, rfl⟩
  clear HBY
  cases b with
  | false =>
    go_wp2
    go_ret
    exact Told.same _
  | true =>
  by_cases h1 : (4096 : Int) < (n : Int)
  · go_wp2
    go_ret
    exact Told.same _
  by_cases h2 : (4096 : Int) < (bn : Int)
  · go_wp2
    go_ret
    exact Told.same _
  by_cases h3 : (4096 : Int) < (dn : Int)
  · go_wp2
    go_ret
    exact Told.same _
  go_wp2
  go_loop [15, 16] (fun z i => ∃ (k : Nat) (zz : Int), k ≤ bn ∧ i = .int .i64 k ∧ z = .int .i64 zz ∧ 0 ≤ zz ∧ zz ≤ 1048576) (fun _ i => bn - (intOf i).toNat)
  case atStart => exact ⟨0, _, Nat.zero_le _, rfl, rfl, by omega, by omega⟩
  case round =>
  obtain ⟨k, zz, hk, rfl, rfl, hzz0, hzz1⟩ := hrel
  by_cases hlt : k < bn
  · obtain rfl := HB.out.addr (by omega)
    have hcell := HB.out.cell k hlt
    have hsz := HB.out.size k hlt
    unfold maxLen at hsz
    have hlt' : (k : Int) < (bn : Int) := by omega
    go_wp2
    · go_ret
      exact Told.same _
    · go_round
      case rel => exact ⟨k + 1, _, by omega, by go_num, rfl, by omega, by omega⟩
      case measure => simp [intOf]; omega
  obtain rfl : k = bn := by omega
  go_wp2
  go_loop [15, 17] (fun z i => ∃ (j : Nat) (yy : Int), j ≤ dn ∧ i = .int .i64 j ∧ z = .int .i64 yy ∧ 0 ≤ yy ∧ yy ≤ 1048576) (fun _ i => dn - (intOf i).toNat)
  case atStart => exact ⟨0, _, Nat.zero_le _, rfl, rfl, by omega, by omega⟩
  case round =>
  obtain ⟨j, yy, hjd, rfl, rfl, hyy0, hyy1⟩ := hrel
  by_cases hlt2 : j < dn
  · obtain rfl := HD.out.addr (by omega)
    have hcell := HD.out.cell j hlt2
    have hsz := HD.out.size j hlt2
    unfold maxLen at hsz
    have hlt2' : (j : Int) < (dn : Int) := by omega
    go_wp2
    · go_ret
      exact Told.same _
    · go_round
      case rel => exact ⟨j + 1, _, by omega, by go_num, rfl, by omega, by omega⟩
      case measure => simp [intOf]; omega
  obtain rfl : j = dn := by omega
  by_cases hc0 : cut < 0
  · go_wp2
    go_ret
    exact Told.same _
  by_cases hc1 : (n : Int) < cut
  · go_wp2
    go_ret
    exact Told.same _
  clear hzz0 hzz1 hyy0 hyy1 hlt hlt2
  have hmm := @run_makeMap Try.prog
  have hM0 := PtrMap.made (w.heap.size + 2) w
  have HM0 := (show Hid _ from hM0)
  clear hM0
  go_wp2_with (at_make; go_must (refine wpList_make_full _ rfl _ _ 27 rfl (w.heap.size + 1) 28 i0 _ 1 Try.underlying27 hj hz0 hz1 _ _ _ _ n rfl rfl rfl rfl (by rw [hz2]; omega) (by unfold maxLen; omega) (by simp) ?_); intro w1 hown1 hg1)
  clear hmm
  have hsz : (w.alloc (Obj.map #[] 0)).heap.size = w.heap.size + 1 := by simp
  rw [hsz] at hown1
  have hs1 : w.heap.size + 2 ≤ w1.heap.size := (hown1.lt _ rfl).2
  have B0 : Hid (Built w w1 n 0 (madeCells (Value.pointer none).cells (n * 1)).toList) :=
    ⟨PtrMap.kept HM0.out hg1 (by simp) (fun k h => by cases h), hown1, fun j hj => absurd hj (Nat.not_lt_zero _), hs1, ((Below.refl _ _).alloc (Nat.le_refl _) _).grown hg1 (by simp) (fun _ h => by cases h)⟩
  clear hown1 hg1 HM0 hs1
  obtain ⟨cutN, rfl⟩ := Int.eq_ofNat_of_zero_le (show 0 ≤ cut by omega)
  try simp only [hsz]
  clear hsz
  go_loopw [21] (fun i wr => ∃ (k : Nat) (xs : List Value), k ≤ n ∧ i = .int .i64 k ∧ Built w wr n k xs) (fun i _ => n - (intOf i).toNat)
  case atStart => exact ⟨0, _, Nat.zero_le _, rfl, B0.out⟩
  case round =>
  obtain ⟨k3, xs, hk3, rfl, hbt⟩ := hrel
  clear B0
  have HBT := (show Hid _ from hbt)
  clear hbt
  by_cases hlt3 : k3 < n
  · obtain rfl := HI.out.addr (by omega)
    have hlt3' : (k3 : Int) < (n : Int) := by omega
    have c0 : wr.cell? ⟨zi.b, zi.o + k3, none⟩ = some (.int .i64 (zi.at_ k3)) := (HBT.out.bel.cell (p := ⟨zi.b, zi.o + k3, none⟩) (World.block_lt_of_cell? _ _ (HI.out.cell k3 hlt3))).trans (HI.out.cell k3 hlt3)
    have HS : Hid (Calls Try.prog 5 #[.map (some w.heap.size), .int .i64 (zi.at_ k3)] wr (PoolRet (w.heap.size + 2) w.heap.size k3 wr)) := serverFor_any _ _ k3 _ wr (by omega) (HI.out.wf k3 hlt3) (by omega) HBT.out.size HBT.out.pool
    go_wp2_with fail
    go_at_call 5
    refine HS.out.mono ?_
    rintro e w2 ⟨q, rfl, hM2, hq2, hg2⟩
    obtain ⟨⟨vv, hst⟩, hfz, hbs⟩ := Built.step HBT.out hlt3 hM2 hq2 hg2
    have HBS := (show Hid _ from hbs)
    clear hbs hM2 hq2 hg2 HS HBT
    go_wp2
    go_roundw
    case rel => exact ⟨k3 + 1, _, by omega, by go_num, HBS.out⟩
    case measure => simp [intOf]; omega
  obtain rfl : k3 = n := by omega
  have HS : Hid (Calls Try.prog 5 #[.map (some w.heap.size), .int .i64 x] wr (PoolRet (w.heap.size + 2) w.heap.size k3 wr)) := serverFor_any _ _ k3 _ wr (by omega) HX.out (by omega) HBT.out.size HBT.out.pool
  go_wp2_with fail
  go_at_call 5
  refine HS.out.mono ?_
  rintro e w2 ⟨q, rfl, hM2, hq2, hg2⟩
  have HP : Hid (PtrsIn (w.heap.size + 2) w2 (some ⟨w.heap.size + 1, 0, none⟩) k3 (w.heap.size + 1) 0 (ptrAt xs)) := Built.ptrs HBT.out hg2
  have HQ := (show Hid _ from hq2)
  have HW2 : Hid (Below w.heap.size w w2) := Below.grown HBT.out.bel hg2 (by have := HBT.out.size; omega) (fun i e => by cases e; exact Nat.le_refl _)
  clear hM2 hq2 hg2 HS HBT hz0 hz1 hz2 hj HI HX HB HD hcut hlt3
  generalize ptrAt xs = p at *
  have hcn : cutN ≤ k3 := by omega
  obtain ⟨m, hm⟩ : ∃ m, m + cutN = k3 := ⟨k3 - cutN, by omega⟩
  have hsf := slice_front (w.heap.size + 1) k3 cutN hcn
  obtain ⟨s, hs, hsb⟩ := slice_back (w.heap.size + 1) m k3 cutN hm
  have HSS := (show Hid _ from hs)
  clear hs
  go_wp2_with fail
  obtain ⟨w3, hW3, hb3, r1, r2, r3⟩ := recs w2 #[.slice (some ⟨w.heap.size + 1, 0, none⟩) k3 k3, .slice ba k bc, .int .u64 u, .int .u64 v, .slice da j dc, .bool false] #[.slice (some ⟨w.heap.size + 1, 0, none⟩) cutN cutN, .slice ba k bc, .int .u64 u, .int .u64 v, .slice da j dc, .bool false] #[.slice s m m, .slice ba k bc, .int .u64 u, .int .u64 v, .slice da j dc, .bool false]
  rw [hW3]
  clear hW3 hsf hsb
  have HEND : Hid (Below w.heap.size w w3) := HW2.out.trans (hb3.mono (by have := HW2.out.size; omega))
  have P3 : Hid (PtrsIn (w.heap.size + 2) w3 (some ⟨w.heap.size + 1, 0, none⟩) k3 (w.heap.size + 1) 0 p) := HP.out.later hb3 (Nat.le_refl _)
  have Q3 : Hid (PtrOk (w.heap.size + 2) w3 q) := PtrOk.later HQ.out hb3 (Nat.le_refl _)
  have R1 : Hid (∀ o, First p q k3 o → Calls Try.prog 6 #[.pointer (some ⟨w2.heap.size, 0, none⟩), .pointer q] w3 (ValIs (.pointer (hold p k3 o)) w3)) := fun o ho => holder_any _ _ _ k3 k3 _ _ p q o w3 (by omega) r1 P3.out Q3.out ho
  have R2 : Hid (∀ o, First p q cutN o → Calls Try.prog 6 #[.pointer (some ⟨w2.heap.size + 1, 0, none⟩), .pointer q] w3 (ValIs (.pointer (hold p cutN o)) w3)) := fun o ho => holder_any _ _ _ cutN cutN _ _ p q o w3 (by omega) r2 (P3.out.front cutN hcn) Q3.out ho
  have R3 : Hid (∀ o, First (fun i => p (cutN + i)) q m o → Calls Try.prog 6 #[.pointer (some ⟨w2.heap.size + 1 + 1, 0, none⟩), .pointer q] w3 (ValIs (.pointer (hold (fun i => p (cutN + i)) m o)) w3)) := fun o ho => holder_any _ _ _ m m _ _ (fun i => p (cutN + i)) q o w3 (by omega) r3 (P3.out.back hm HSS.out) Q3.out ho
  have R4 : Hid (∀ o, First p q k3 o → Calls Try.prog 7 #[.slice (some ⟨w.heap.size + 1, 0, none⟩) k3 k3, .pointer q] w3 (ValIs (.int .i64 (retI o)) w3)) := fun o ho => firstAt_any _ _ k3 k3 _ _ p q o w3 (by omega) P3.out Q3.out ho
  clear r1 r2 r3 HP HQ HW2 hb3 HSS
  obtain ⟨o, ho⟩ := First.ex p q k3
  obtain ⟨o2, ho2⟩ := First.ex p q cutN
  obtain ⟨o3, ho3⟩ := First.ex (fun i => p (cutN + i)) q m
  cases o with
  | none =>
    have C1 : Hid (Calls Try.prog 6 #[.pointer (some ⟨w2.heap.size, 0, none⟩), .pointer q] w3 (ValIs (.pointer none) w3)) := R1.out none ho
    have C2 : Hid (Calls Try.prog 6 #[.pointer (some ⟨w2.heap.size + 1, 0, none⟩), .pointer q] w3 (ValIs (.pointer none) w3)) := R2.out none (fun j hj => ho j (by omega))
    have C3 : Hid (Calls Try.prog 6 #[.pointer (some ⟨w2.heap.size + 1 + 1, 0, none⟩), .pointer q] w3 (ValIs (.pointer none) w3)) := R3.out none (fun j hj => ho (cutN + j) (by omega))
    have C4 : Hid (Calls Try.prog 7 #[.slice (some ⟨w.heap.size + 1, 0, none⟩) k3 k3, .pointer q] w3 (ValIs (.int .i64 (-1)) w3)) := R4.out none ho
    clear R1 R2 R3 R4 P3 Q3 ho ho2 ho3
    refine C1.out.mono ?_
    rintro e w' ⟨rfl, rfl⟩
    go_wp2_with fail
    refine C2.out.mono ?_
    rintro e w' ⟨rfl, rfl⟩
    go_wp2_with fail
    refine C3.out.mono ?_
    rintro e w' ⟨rfl, rfl⟩
    go_wp2_with fail
    refine C4.out.mono ?_
    rintro e w' ⟨rfl, rfl⟩
    clear C1 C2 C3 C4
    go_wp2
    go_ret
    exact ⟨rfl, HEND.out⟩
  | some kk =>
  have hkk := ho.1
  have C4 : Hid (Calls Try.prog 7 #[.slice (some ⟨w.heap.size + 1, 0, none⟩) k3 k3, .pointer q] w3 (ValIs (.int .i64 kk) w3)) := R4.out (some kk) ho
  have hk0 : ¬ (kk : Int) < 0 := by omega
  by_cases hn2 : k3 < 2
  · have hn2' : (k3 : Int) < 2 := by omega
    have C1 : Hid (Calls Try.prog 6 #[.pointer (some ⟨w2.heap.size, 0, none⟩), .pointer q] w3 (ValIs (.pointer none) w3)) := by have := R1.out (some kk) ho; rwa [hold_few p k3 kk hn2] at this
    have C3 : Hid (Calls Try.prog 6 #[.pointer (some ⟨w2.heap.size + 1 + 1, 0, none⟩), .pointer q] w3 (ValIs (.pointer (hold (fun i => p (cutN + i)) m o3)) w3)) := R3.out o3 ho3
    generalize hold (fun i => p (cutN + i)) m o3 = HB' at *
    by_cases hkc : kk < cutN
    · have hkc' : (kk : Int) < (cutN : Int) := by omega
      have hq1 : ((kk : Int) == (cutN : Int) - 1) = true := by rw [beq_iff_eq]; omega
      have hq2 : ¬ (cutN : Int) < (k3 : Int) := by omega
      have C2 : Hid (Calls Try.prog 6 #[.pointer (some ⟨w2.heap.size + 1, 0, none⟩), .pointer q] w3 (ValIs (.pointer none) w3)) := by have := R2.out (some kk) ⟨hkc, ho.2⟩; rwa [hold_few p cutN kk (by omega)] at this
      clear R1 R2 R3 R4 P3 Q3 ho ho2 ho3
      refine C1.out.mono ?_
      rintro e w' ⟨rfl, rfl⟩
      go_wp2_with fail
      refine C2.out.mono ?_
      rintro e w' ⟨rfl, rfl⟩
      go_wp2_with fail
      refine C3.out.mono ?_
      rintro e w' ⟨rfl, rfl⟩
      go_wp2_with fail
      refine C4.out.mono ?_
      rintro e w' ⟨rfl, rfl⟩
      clear C1 C2 C3 C4
      go_wp2
      go_ret
      exact ⟨rfl, HEND.out⟩
    · have hkc' : ¬ (kk : Int) < (cutN : Int) := by omega
      have hq1 : ((k3 : Int) - (cutN : Int) == 1) = true := by rw [beq_iff_eq]; omega
      have hq2 : ((cutN : Int) == 0) = true := by rw [beq_iff_eq]; omega
      have C2 : Hid (Calls Try.prog 6 #[.pointer (some ⟨w2.heap.size + 1, 0, none⟩), .pointer q] w3 (ValIs (.pointer (hold p cutN o2)) w3)) := R2.out o2 ho2
      generalize hold p cutN o2 = HF' at *
      clear R1 R2 R3 R4 P3 Q3 ho ho2 ho3
      refine C1.out.mono ?_
      rintro e w' ⟨rfl, rfl⟩
      go_wp2_with fail
      refine C2.out.mono ?_
      rintro e w' ⟨rfl, rfl⟩
      go_wp2_with fail
      refine C3.out.mono ?_
      rintro e w' ⟨rfl, rfl⟩
      go_wp2_with fail
      refine C4.out.mono ?_
      rintro e w' ⟨rfl, rfl⟩
      clear C1 C2 C3 C4
      go_wp2
      go_ret
      exact ⟨rfl, HEND.out⟩
  have hn2' : ¬ (k3 : Int) < 2 := by omega
  obtain ⟨H, hH⟩ : ∃ H, H = hold p k3 (some kk) := ⟨_, rfl⟩
  have C1 : Hid (Calls Try.prog 6 #[.pointer (some ⟨w2.heap.size, 0, none⟩), .pointer q] w3 (ValIs (.pointer H) w3)) := by rw [hH]; exact R1.out (some kk) ho
  have C5 : Hid (Calls Try.prog 8 #[.slice (some ⟨w.heap.size + 1, 0, none⟩) k3 k3, .int .i64 kk, .pointer H] w3 (ValIs (.bool true) w3)) := borders_any _ _ k3 k3 _ _ kk p w3 (by omega) (by omega) hkk P3.out H hH
  have hps : (binOp .eql 28 (.pointer H) (.pointer H)).run Try.prog w3 = .ok (.bool true) w3 := ptr_same w3 H
  by_cases hkc : kk < cutN
  · have hkc' : (kk : Int) < (cutN : Int) := by omega
    have C3 : Hid (Calls Try.prog 6 #[.pointer (some ⟨w2.heap.size + 1 + 1, 0, none⟩), .pointer q] w3 (ValIs (.pointer (hold (fun i => p (cutN + i)) m o3)) w3)) := R3.out o3 ho3
    generalize hold (fun i => p (cutN + i)) m o3 = HB' at *
    by_cases he : kk + 1 = cutN
    · have hq1 : ((kk : Int) == (cutN : Int) - 1) = true := by rw [beq_iff_eq]; omega
      by_cases hl : cutN < k3
      · have hl' : (cutN : Int) < (k3 : Int) := by omega
        have C2 : Hid (Calls Try.prog 6 #[.pointer (some ⟨w2.heap.size + 1, 0, none⟩), .pointer q] w3 (ValIs (.pointer (hold p cutN o2)) w3)) := R2.out o2 ho2
        generalize hold p cutN o2 = HF' at *
        have c9 : w3.cell? ⟨w.heap.size + 1, cutN, none⟩ = some (.pointer H) := by
          have := P3.out.cell cutN hl
          rw [Nat.zero_add] at this
          rw [this, hH, hold_mid p k3 kk hn2 (by omega), he]
        clear R1 R2 R3 R4 P3 Q3 ho ho2 ho3 hH
        refine C1.out.mono ?_
        rintro e w' ⟨rfl, rfl⟩
        go_wp2_with fail
        refine C2.out.mono ?_
        rintro e w' ⟨rfl, rfl⟩
        go_wp2_with fail
        refine C3.out.mono ?_
        rintro e w' ⟨rfl, rfl⟩
        go_wp2_with fail
        refine C4.out.mono ?_
        rintro e w' ⟨rfl, rfl⟩
        clear C1 C2 C3 C4
        go_wp2_with fail
        refine C5.out.mono ?_
        rintro e w' ⟨rfl, rfl⟩
        clear C5
        go_wp2
        go_ret
        exact ⟨rfl, HEND.out⟩
      · have hl' : ¬ (cutN : Int) < (k3 : Int) := by omega
        have C2 : Hid (Calls Try.prog 6 #[.pointer (some ⟨w2.heap.size + 1, 0, none⟩), .pointer q] w3 (ValIs (.pointer H) w3)) := by
          have := R2.out (some kk) ⟨hkc, ho.2⟩
          rwa [show hold p cutN (some kk) = H by rw [hH, show cutN = k3 by omega]] at this
        clear R1 R2 R3 R4 P3 Q3 ho ho2 ho3 hH
        refine C1.out.mono ?_
        rintro e w' ⟨rfl, rfl⟩
        go_wp2_with fail
        refine C2.out.mono ?_
        rintro e w' ⟨rfl, rfl⟩
        go_wp2_with fail
        refine C3.out.mono ?_
        rintro e w' ⟨rfl, rfl⟩
        go_wp2_with fail
        refine C4.out.mono ?_
        rintro e w' ⟨rfl, rfl⟩
        clear C1 C2 C3 C4
        go_wp2_with fail
        refine C5.out.mono ?_
        rintro e w' ⟨rfl, rfl⟩
        clear C5
        go_wp2
        go_ret
        exact ⟨rfl, HEND.out⟩
    · have hq1 : ((kk : Int) == (cutN : Int) - 1) = false := by rw [beq_eq_false_iff_ne]; omega
      have C2 : Hid (Calls Try.prog 6 #[.pointer (some ⟨w2.heap.size + 1, 0, none⟩), .pointer q] w3 (ValIs (.pointer H) w3)) := by
        have := R2.out (some kk) ⟨hkc, ho.2⟩
        rwa [show hold p cutN (some kk) = H by rw [hH, hold_mid p cutN kk (by omega) (by omega), hold_mid p k3 kk (by omega) (by omega)]] at this
      clear R1 R2 R3 R4 P3 Q3 ho ho2 ho3 hH
      refine C1.out.mono ?_
      rintro e w' ⟨rfl, rfl⟩
      go_wp2_with fail
      refine C2.out.mono ?_
      rintro e w' ⟨rfl, rfl⟩
      go_wp2_with fail
      refine C3.out.mono ?_
      rintro e w' ⟨rfl, rfl⟩
      go_wp2_with fail
      refine C4.out.mono ?_
      rintro e w' ⟨rfl, rfl⟩
      clear C1 C2 C3 C4
      go_wp2_with fail
      refine C5.out.mono ?_
      rintro e w' ⟨rfl, rfl⟩
      clear C5
      go_wp2
      go_ret
      exact ⟨rfl, HEND.out⟩
  · have hkc' : ¬ (kk : Int) < (cutN : Int) := by omega
    have C2 : Hid (Calls Try.prog 6 #[.pointer (some ⟨w2.heap.size + 1, 0, none⟩), .pointer q] w3 (ValIs (.pointer (hold p cutN o2)) w3)) := R2.out o2 ho2
    generalize hold p cutN o2 = HF' at *
    by_cases h1' : m = 1
    · have hq1 : ((k3 : Int) - (cutN : Int) == 1) = true := by rw [beq_iff_eq]; omega
      have hq2 : ((cutN : Int) == 0) = false := by rw [beq_eq_false_iff_ne]; omega
      have C3 : Hid (Calls Try.prog 6 #[.pointer (some ⟨w2.heap.size + 1 + 1, 0, none⟩), .pointer q] w3 (ValIs (.pointer (hold (fun i => p (cutN + i)) m o3)) w3)) := R3.out o3 ho3
      generalize hold (fun i => p (cutN + i)) m o3 = HB' at *
      have c9 : w3.cell? ⟨w.heap.size + 1, cutN - 1, none⟩ = some (.pointer H) := by
        have := P3.out.cell (cutN - 1) (by omega)
        rw [Nat.zero_add] at this
        rw [this, hH, hold_last p k3 kk hn2 (by omega), show kk = cutN by omega]
      have hi0 : ¬ (cutN : Int) - 1 < 0 := by omega
      have hi1 : (cutN : Int) - 1 < (k3 : Int) := by omega
      clear R1 R2 R3 R4 P3 Q3 ho ho2 ho3 hH
      refine C1.out.mono ?_
      rintro e w' ⟨rfl, rfl⟩
      go_wp2_with fail
      refine C2.out.mono ?_
      rintro e w' ⟨rfl, rfl⟩
      go_wp2_with fail
      refine C3.out.mono ?_
      rintro e w' ⟨rfl, rfl⟩
      go_wp2_with fail
      refine C4.out.mono ?_
      rintro e w' ⟨rfl, rfl⟩
      clear C1 C2 C3 C4
      go_wp2_with fail
      refine C5.out.mono ?_
      rintro e w' ⟨rfl, rfl⟩
      clear C5
      go_wp2
      go_ret
      exact ⟨rfl, HEND.out⟩
    · have hq1 : ((k3 : Int) - (cutN : Int) == 1) = false := by rw [beq_eq_false_iff_ne]; omega
      have C3 : Hid (Calls Try.prog 6 #[.pointer (some ⟨w2.heap.size + 1 + 1, 0, none⟩), .pointer q] w3 (ValIs (.pointer H) w3)) := by
        have := R3.out (some (kk - cutN)) ⟨by omega, by show p (cutN + (kk - cutN)) = q; rw [show cutN + (kk - cutN) = kk by omega]; exact ho.2.1, fun j hj => ho.2.2 (cutN + j) (by omega)⟩
        rwa [show hold (fun i => p (cutN + i)) m (some (kk - cutN)) = H by
          rw [hH]
          by_cases e : kk + 1 = k3
          · rw [hold_last _ m _ (by omega) (by omega), hold_last p k3 kk (by omega) e]
            show p (cutN + (kk - cutN - 1)) = _
            rw [show cutN + (kk - cutN - 1) = kk - 1 by omega]
          · rw [hold_mid _ m _ (by omega) (by omega), hold_mid p k3 kk (by omega) e]
            show p (cutN + (kk - cutN + 1)) = _
            rw [show cutN + (kk - cutN + 1) = kk + 1 by omega]] at this
      clear R1 R2 R3 R4 P3 Q3 ho ho2 ho3 hH
      refine C1.out.mono ?_
      rintro e w' ⟨rfl, rfl⟩
      go_wp2_with fail
      refine C2.out.mono ?_
      rintro e w' ⟨rfl, rfl⟩
      go_wp2_with fail
      refine C3.out.mono ?_
      rintro e w' ⟨rfl, rfl⟩
      go_wp2_with fail
      refine C4.out.mono ?_
      rintro e w' ⟨rfl, rfl⟩
      clear C1 C2 C3 C4
      go_wp2_with fail
      refine C5.out.mono ?_
      rintro e w' ⟨rfl, rfl⟩
      clear C5
      go_wp2
      go_ret
      exact ⟨rfl, HEND.out⟩

end Go.Proofs.Qxb6623411a
