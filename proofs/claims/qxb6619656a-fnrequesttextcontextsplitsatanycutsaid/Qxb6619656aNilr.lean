/-
  requestText (31) and ZZRequestText (12) at a nil context; contract of zzB1SameStrings (14).
-/
import Derived.Test.Qxb6619656aLists
import Derived.Laws.IdiomRangeMap
import Derived.BigQuiet
import Derived.Deep.QuietTactic
namespace Go.Proofs.Qxb6619656a
open Go.RowKit

/-- The texts come back: pre alone; nothing old has turned. -/
def PreRet (pre : List ByteArray) (w : World) (e : Ending) (w' : World) : Prop := ∃ v, e = .returned v ∧ OwnStrs w' w.heap.size v pre ∧ Below w.heap.size w w'

set_option maxRecDepth 100000 in
set_option maxHeartbeats 400000 in
theorem reqText_nil (act res : ByteArray) (po : Option ByteArray) (pp : Option Addr) (w : World)
    (hp : match po with | none => pp = none | some v => ∃ pb, pp = some ⟨pb, 0, none⟩ ∧ w.cell? ⟨pb, 1, none⟩ = some (.string v)) :
    Calls Try.prog 31 #[.agg #[.pointer pp, .string act, .string res, .map none]] w (PreRet (preOf act res po) w) := by
  have hrn := fun (w : World) => run_range_nilMap (P := Try.prog) w 29 9 22 Try.underlying29
  cases po with
  | none =>
    subst hp
    go_enter Try.func31, Try.ntmps31
    go_wp2
    clear hrn
    obtain ⟨W, hW⟩ : ∃ W, W = (w.alloc (.cells #[.pointer none, .string act, .string res, .map none] 46)).alloc (.cells #[.string act, .string res] 9) := ⟨_, rfl⟩
    have hWs : W.heap.size = w.heap.size + 1 + 1 := by rw [hW, Go.Deep.nblk_alloc, Go.Deep.nblk_alloc]
    have HO : Hid (OwnStrs W w.heap.size (.slice (some ⟨w.heap.size + 1, 0, none⟩) 2 2) (preOf act res none)) := by rw [hW]; exact own_two w _ act res
    have HB : Hid (Below w.heap.size w W) := by rw [hW]; exact ((Below.refl _ _).alloc (Nat.le_refl _) _).alloc (by simp) _
    have hnx : ∀ ty, (Instr.next (.pointer (some ⟨w.heap.size + 1 + 1, 0, none⟩)) false ty).run Try.prog (W.alloc (.mapIter none 0 #[] 0)) = .ok (.tuple #[.bool false]) (W.alloc (.mapIter none 0 #[] 0)) := fun ty => by
      rw [← hWs]; exact run_next_nilMap W ty 0 0 #[]
    rw [← hW]
    clear hW
    go_loopw [3] (fun v wr => v = .slice (some ⟨w.heap.size + 1, 0, none⟩) 2 2 ∧ W.alloc (.mapIter none 0 #[] 0) = wr) (fun _ _ => 0)
    case atStart => exact ⟨rfl, rfl⟩
    case round =>
      obtain ⟨rfl, rfl⟩ := hrel
      go_wp2
      go_ret
      exact ⟨_, rfl, HO.out.alloc _, HB.out.alloc HB.out.size _⟩
  | some pv =>
    obtain ⟨pb, rfl, hpc⟩ := hp
    have hpb : pb < w.heap.size := World.block_lt_of_cell? _ _ hpc
    have hpc2 : ∀ o, (w.alloc o).cell? ⟨pb, 1, none⟩ = some (.string pv) := fun o => (World.cell?_alloc_lt _ _ _ hpb).trans hpc
    have hpc3 : ∀ o o', ((w.alloc o).alloc o').cell? ⟨pb, 1, none⟩ = some (.string pv) := fun o o' => (World.cell?_alloc_lt _ _ _ (by simp; omega)).trans (hpc2 o)
    go_enter Try.func31, Try.ntmps31
    go_wp2_with (first
      | (at_builtin; go_must (refine wpList_app_strs _ rfl _ _ rfl w.heap.size _ [act, res] rfl (OwnStrs.alloc (own_two w _ act res) _) (some ⟨w.heap.size + 1 + 1, 0, none⟩) 1 1 [pv] rfl rfl ?_ ?_ (by simp) ?_ ?_)))
    · intro h; cases h
    · intro ad had j y hy
      cases had
      have hq : j = 0 := by have := (List.getElem?_eq_some_iff.1 hy).1; simpa using this
      subst hq
      simp at hy
      subst hy
      exact cell_third w _ _ _ _
    · simp; omega
    intro v3 W hO3 hg3
    have cB : W.cell? ⟨w.heap.size, 3, none⟩ = some (.map none) := hg3.cell (box_cell w _ _ _ _ 3 _ rfl) (by simp [Value.ownBlock])
    have hb3 : Below w.heap.size w W := ((((Below.refl w.heap.size w).alloc (Nat.le_refl _) _).alloc (by simp) _).alloc (by simp; omega) _).grown hg3 (by simp; omega) (fun x hx => by simp [Value.ownBlock] at hx; omega)
    have HO : Hid (OwnStrs W w.heap.size v3 (preOf act res (some pv))) := hO3
    have hnx : ∀ ty, (Instr.next (.pointer (some ⟨W.heap.size, 0, none⟩)) false ty).run Try.prog (W.alloc (.mapIter none 0 #[] 0)) = .ok (.tuple #[.bool false]) (W.alloc (.mapIter none 0 #[] 0)) := fun ty => run_next_nilMap W ty 0 0 #[]
    clear hO3 hg3 hpc hpc2 hpc3
    go_wp2
    clear hrn
    go_loopw [3] (fun v wr => v = v3 ∧ W.alloc (.mapIter none 0 #[] 0) = wr) (fun _ _ => 0)
    case atStart => exact ⟨rfl, rfl⟩
    case round =>
      obtain ⟨rfl, rfl⟩ := hrel
      go_wp2
      go_ret
      exact ⟨_, rfl, HO.out.alloc _, hb3.alloc hb3.size _⟩

theorem PreRet.low {pre : List ByteArray} {w W w' : World} {e : Ending} (h : PreRet pre W e w') (hb : Below w.heap.size w W) : PreRet pre w e w' := by
  obtain ⟨v, h1, h2, h4⟩ := h
  exact ⟨v, h1, h2.low hb.size, hb.trans (h4.mono hb.size)⟩

set_option maxRecDepth 100000 in
set_option maxHeartbeats 400000 in
theorem zzReq_nil (act res kd val : ByteArray) (hp : Bool) (w : World) :
    Calls Try.prog 12 #[.string act, .string res, .bool hp, .string kd, .string val, .map none] w (PreRet (preOf act res (if hp then some val else none)) w) := by
  cases hp with
  | false =>
    go_enter Try.func12, Try.ntmps12
    go_wp2_with fail
    refine (reqText_nil act res none none _ rfl).mono ?_
    intro e w2 h2
    have h3 := PreRet.low h2 ((Below.refl _ _).alloc (Nat.le_refl _) _)
    obtain ⟨v, rfl, h4⟩ := h3
    clear h2
    go_wp2
    go_ret
    exact ⟨v, rfl, h4⟩
  | true =>
    go_enter Try.func12, Try.ntmps12
    go_wp2_with fail
    refine (reqText_nil act res (some val) (some ⟨w.heap.size + 1, 0, none⟩) _ ⟨_, rfl, cell_second w _ _ _ _⟩).mono ?_
    intro e w2 h2
    have h3 := PreRet.low h2 (((Below.refl w.heap.size w).alloc (Nat.le_refl _) _).alloc (by simp) _)
    obtain ⟨v, rfl, h4⟩ := h3
    clear h2
    go_wp2
    go_ret
    exact ⟨v, rfl, h4⟩

set_option maxRecDepth 100000 in
set_option maxHeartbeats 400000 in
theorem same_true (ga ha : Option Addr) (n c c' gb go hb ho : Nat) (S : Nat → ByteArray) (w : World) (hn : n ≤ 4398046511104) (hS : SlStr w ga n gb go S) (hT : SlStr w ha n hb ho S) :
    Calls Try.prog 14 #[.slice ga n c, .slice ha n c'] w (TrueB w) := by
  have HS := (show Hid _ from hS)
  have HT := (show Hid _ from hT)
  clear hS hT
  go_enter Try.func14, Try.ntmps14
  go_wp2
  go_loopw [5] (fun i wr => ∃ k : Nat, k ≤ n ∧ i = .int .i64 k ∧ Below w.heap.size w wr) (fun i _ => n - (intOf i).toNat)
  case atStart => exact ⟨0, Nat.zero_le _, rfl, Below.refl _ _⟩
  case round =>
    obtain ⟨k, hk, rfl, hbel⟩ := hrel
    by_cases hlt : k < n
    · have hlt' : (k : Int) < (n : Int) := by omega
      obtain rfl := HS.out.addr (by omega)
      obtain rfl := HT.out.addr (by omega)
      have c0 := (HS.out.later hbel (Nat.le_refl _)).cell k hlt
      have c1 := (HT.out.later hbel (Nat.le_refl _)).cell k hlt
      go_wp2
      go_quiet (fail)
      go_wp2
      go_roundw
      case rel => exact ⟨k + 1, by omega, by go_num, below_drewN hbel _⟩
      case measure => simp [intOf]; omega
    · have hlt' : ¬ (k : Int) < (n : Int) := by omega
      go_wp2
      go_ret
      exact ⟨rfl, hbel⟩

end Go.Proofs.Qxb6619656a
