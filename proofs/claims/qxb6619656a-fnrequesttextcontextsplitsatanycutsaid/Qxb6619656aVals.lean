/-
  Slices of strings that the calls build; contract of zzB1ValuesOf (16).
-/
import Derived.Test.Qxb6619656aCtx
import Derived.Laws.AppendOwnNone
namespace Go.Proofs.Qxb6619656a
open Go.RowKit

theorem Try.info9' : (Try.prog.info? 9).map (fun i => (i.zero, i.size, i.bytes)) = some (some (.string ⟨#[]⟩), 1, 16) := by kernel_rfl

/-- v is a slice of the call's own (blocks from base on), or nil, that holds the strings xs. -/
def OwnStrs (w : World) (base : Nat) (v : Value) (xs : List ByteArray) : Prop := w.ownsRow base 9 1 v xs.length (xs.map Value.string)

theorem OwnStrs.nil (w : World) (base : Nat) : OwnStrs w base (.slice none 0 0) [] := World.ownsRow_nil _ _ _ _
theorem OwnStrs.alloc {w : World} {base : Nat} {v : Value} {xs : List ByteArray} (h : OwnStrs w base v xs) (o : Obj) : OwnStrs (w.alloc o) base v xs := World.ownsRow.alloc h o
theorem OwnStrs.lt {w : World} {base : Nat} {v : Value} {xs : List ByteArray} (h : OwnStrs w base v xs) : ∀ k, v.ownBlock = some k → base ≤ k ∧ k < w.heap.size := World.ownsRow.lt h

theorem strings_oneCell (xs : List ByteArray) : ∀ u ∈ xs.map Value.string, u.oneCell' = true := by
  intro u hu
  obtain ⟨_, _, rfl⟩ := List.mem_map.1 hu
  rfl

/-- 'append(out, src...)': out the call's own; src whatever, nil too. -/
theorem wpList_app_strs (w : World) {ops : Array Oper} {rest : List Oper} {o : Oper} {a : Act} {Q : Exit → Act → World → Prop} (hgd : o.guard = none) (s x : Operand)
    (ho : o.op = .call { callee := .builtin .append, args := #[s, x], argTypes := #[22, 22] }) (base : Nat) (v : Value) (xs : List ByteArray) (hs : a.eval s = v) (hown : OwnStrs w base v xs)
    (ao : Option Addr) (m c : Nat) (ys : List ByteArray) (hx : a.eval x = .slice ao m c) (hl : ys.length = m) (hnone : ao = none → m = 0 ∧ c = 0)
    (hcell : ∀ ad, ao = some ad → ∀ j y, ys[j]? = some y → w.cell? (ad.add j) = some (.string y)) (hb : xs.length + m ≤ 8796093022208) (hbase : base ≤ w.heap.size)
    (h : ∀ v' w', OwnStrs w' base v' (xs ++ ys) → w.grownBy w' v.ownBlock → wpList Try.prog ops Q rest (a.put o.dst v') w') : wpList Try.prog ops Q (o :: rest) a w := by
  obtain ⟨i0, hi, hz0, hz1, hz2⟩ := info_parts Try.info9'
  cases ao with
  | none =>
    obtain ⟨rfl, rfl⟩ := hnone rfl
    obtain rfl := List.eq_nil_of_length_eq_zero hl
    refine wpList_append_own_none hgd s x 22 ho base 9 i0 1 Try.underlying22 hi v _ _ hs hown hx ?_
    exact h v w (by rw [List.append_nil]; exact hown) (World.grownBy.refl _ _)
  | some ad =>
    refine wpList_append_own _ hgd s x 22 ho base 9 i0 (.string ⟨#[]⟩) 1 16 Try.underlying22 hi hz0 hz1 hz2 rfl (by decide) v _ _ hs hown ad m c (ys.map Value.string) hx (by simp [hl]) (fun j u hu => ?_) (strings_oneCell ys) (by unfold maxLen; omega) (by omega) hbase ?_
    · rw [List.getElem?_map, Option.map_eq_some_iff] at hu
      obtain ⟨y, hy, rfl⟩ := hu
      exact hcell ad rfl j y hy
    · intro v' w' h1 h2 _
      refine h v' w' ?_ h2
      unfold OwnStrs
      rw [List.length_append, List.map_append, hl]
      exact h1

/-- The strings at place i. -/
def vals (z : SGrid) (i : Nat) : List ByteArray := (List.range (z.L i)).map (z.S i)
theorem vals_len (z : SGrid) (i : Nat) : (vals z i).length = z.L i := by simp [vals]
theorem vals_get {z : SGrid} {i j : Nat} {y : ByteArray} (h : (vals z i)[j]? = some y) : j < z.L i ∧ y = z.S i j := by
  have hj := (List.getElem?_eq_some_iff.1 h).1
  rw [vals_len] at hj
  refine ⟨hj, ?_⟩
  simp [vals, hj] at h
  exact h.symm
theorem vals_take_succ (z : SGrid) (i j : Nat) (h : j < z.L i) : (vals z i).take (j + 1) = (vals z i).take j ++ [z.S i j] := by
  rw [List.take_succ_eq_append_getElem (by rw [vals_len]; exact h)]
  simp [vals]
/-- .. and at the places in I. -/
def valsOf (z : SGrid) (I : List Nat) : List ByteArray := I.flatMap (vals z)
theorem valsOf_snoc (z : SGrid) (I : List Nat) (i : Nat) : valsOf z (I ++ [i]) = valsOf z I ++ vals z i := by simp [valsOf, List.flatMap_append]
theorem valsOf_len (z : SGrid) (M : Nat) (hM : ∀ i, z.L i ≤ M) : ∀ I : List Nat, (valsOf z I).length ≤ I.length * M
  | [] => by simp [valsOf]
  | i :: r => by
    have := valsOf_len z M hM r
    have h2 := hM i
    show (vals z i ++ valsOf z r).length ≤ _
    rw [List.length_append, vals_len, List.length_cons, Nat.add_mul]
    omega

/-- A slice of strings of the call's own comes back; nothing old has turned. -/
def StrsNew (xs : List ByteArray) (w : World) (e : Ending) (w' : World) : Prop := ∃ v, e = .returned v ∧ OwnStrs w' w.heap.size v xs ∧ Below w.heap.size w w'

theorem OwnStrs.grown {w0 w w' : World} {v : Value} {xs : List ByteArray} (h : OwnStrs w w0.heap.size v xs) (hb : Below w0.heap.size w0 w) (hg : w.grownBy w' v.ownBlock) : Below w0.heap.size w0 w' :=
  hb.grown hg hb.size (fun k hk => (h.lt k hk).1)

set_option maxRecDepth 100000 in
set_option maxHeartbeats 400000 in
theorem valuesOf_any (ga : Option Addr) (n c gb go : Nat) (S : Nat → ByteArray) (va : Option Addr) (vn vc : Nat) (z : SGrid) (bl m lo hi : Nat) (w : World) (hn : n ≤ 1048576) (hvn : vn ≤ 1048576) (hlo : lo ≤ hi) (hhi : hi ≤ n) (hL : ∀ i, z.L i ≤ 1048576)
    (hS : SlStr w ga n gb go S) (hz : SGridIn w va vn z) (hM : IntMap w bl m (lastF S n)) :
    Calls Try.prog 16 #[.slice ga n c, .slice va vn vc, .map (some bl), .int .i64 lo, .int .i64 hi] w (StrsNew (valsOf z (ctxI S n lo hi)) w) := by
  have HS := (show Hid _ from hS)
  have HZ := (show Hid _ from hz)
  have HM := (show Hid _ from hM)
  have HL := (show Hid _ from hL)
  have hbl := hM.lt
  clear hS hz hM hL
  go_enter Try.func16, Try.ntmps16
  go_wp2
  have HO0 : Hid (OwnStrs w w.heap.size (.slice none 0 0) (valsOf z (ctxI S n lo lo))) := by
    show OwnStrs _ _ _ _
    rw [ctxI_lo]; exact OwnStrs.nil _ _
  go_loopw [11, 12] (fun v i wr => ∃ k : Nat, lo ≤ k ∧ k ≤ hi ∧ i = .int .i64 k ∧ OwnStrs wr w.heap.size v (valsOf z (ctxI S n lo k)) ∧ Below w.heap.size w wr) (fun _ i _ => hi - (intOf i).toNat)
  case atStart => exact ⟨lo, Nat.le_refl _, hlo, rfl, HO0.out, Below.refl _ _⟩
  case round =>
    obtain ⟨k, hlk, hk, rfl, hO, hbel⟩ := hrel
    clear HO0
    by_cases hlt : k < hi
    · have hlt' : (k : Int) < (hi : Int) := by omega
      have hkn : k < n := by omega
      have hkn' : (k : Int) < (n : Int) := by omega
      obtain rfl := HS.out.addr (by omega)
      have c0 := (HS.out.later hbel (Nat.le_refl _)).cell k hkn
      have sz := HS.out.size k hkn
      have hlook := (IntMap.below HM.out hbel hbl).look sz
      cases hq : (lastF S n (S k) == (k : Int)) with
      | false =>
        have HO := (show Hid _ from hO)
        have HQ := (show Hid _ from hq)
        clear hO
        go_wp2
        go_roundw
        case rel => exact ⟨k + 1, by omega, by omega, by go_num, by rw [ctxI_succ_out S n lo k HQ.out]; exact HO.out, hbel⟩
        case measure => simp [intOf]; omega
      | true =>
        obtain ⟨ak, hak⟩ : ∃ ak, ak = z.A k := ⟨_, rfl⟩
        have HAk : Hid (0 < z.L k → ak = some ⟨z.rb k, z.ro k, none⟩) := fun h => hak.trans ((HZ.out.cell k).addr h)
        have HV : Hid (∀ w', Below w.heap.size w w' → Calls Try.prog 32 #[.slice va vn vc, .int .i64 k] w' (ValIs (.slice ak (z.L k) (z.C k)) w')) := by rw [hak]; exact fun w' h => valueAt_any va vn vc k z w' hvn (by omega) (HZ.out.later h (Nat.le_refl _))
        have HQ := (show Hid _ from hq)
        have hLk := HL.out k
        clear hak
        have hlen := valsOf_len z 1048576 HL.out (ctxI S n lo k)
        have hlen2 := ctxI_len S n lo k
        have hcap : (valsOf z (ctxI S n lo k)).length ≤ 1099511627776 := by omega
        have HO := (show Hid _ from hO)
        clear hlen hlen2 hO
        go_wp2_with fail
        refine (HV.out _ hbel).mono ?_
        rintro e w' ⟨rfl, rfl⟩
        go_wp2
        have HO0 : Hid (OwnStrs wr w.heap.size u11 (valsOf z (ctxI S n lo k) ++ (vals z k).take 0)) := by
          show OwnStrs _ _ _ _
          rw [List.take_zero, List.append_nil]; exact HO.out
        clear HO
        go_loopw [11, 14] (fun v i wr => ∃ j : Nat, j ≤ z.L k ∧ i = .int .i64 j ∧ OwnStrs wr w.heap.size v (valsOf z (ctxI S n lo k) ++ (vals z k).take j) ∧ Below w.heap.size w wr) (fun _ i _ => z.L k - (intOf i).toNat)
        case atStart => exact ⟨0, Nat.zero_le _, rfl, HO0.out, hbel⟩
        case round =>
          obtain ⟨j, hj, rfl, hO, hbelj⟩ := hrel
          clear HO0
          by_cases hjl : j < z.L k
          · have hjl' : (j : Int) < (z.L k : Int) := by omega
            have hrow := (HZ.out.later hbelj (Nat.le_refl _)).cell k
            have c1 := hrow.cell j hjl
            obtain rfl := HAk.out (by omega)
            clear hrow HAk
            have HO := (show Hid _ from hO)
            have hcap2 : (valsOf z (ctxI S n lo k) ++ (vals z k).take j).length ≤ 2199023255552 := by
              rw [List.length_append, List.length_take, vals_len]; omega
            have HCap := (show Hid _ from hcap2)
            clear hO hcap2
            go_wp2_with (at_builtin; go_must (refine wpList_app_strs _ rfl _ _ rfl w.heap.size _ _ rfl (OwnStrs.alloc HO.out _) (some ⟨wr.heap.size, 0, none⟩) 1 1 [z.S k j] rfl rfl ?_ ?_ ?_ ?_ ?_))
            · intro h; cases h
            · intro ad had q y hy
              cases had
              have hq : q = 0 := by have := (List.getElem?_eq_some_iff.1 hy).1; simpa using this
              subst hq
              simp at hy
              subst hy
              exact cell_one_new _ _ _ 0 _ rfl
            · have := HCap.out; omega
            · have := hbelj.size; simp; omega
            intro v' w3 hO3 hg3
            have hb3 := (OwnStrs.alloc HO.out _).grown (hbelj.alloc hbelj.size _) hg3
            have HO3 : Hid (OwnStrs w3 w.heap.size v' (valsOf z (ctxI S n lo k) ++ (vals z k).take (j + 1))) := by
              show OwnStrs _ _ _ _
              rw [vals_take_succ z k j hjl]; exact hO3
            clear hO3 hg3 HO HCap
            go_wp2
            go_roundw
            case rel => exact ⟨j + 1, by omega, by go_num, HO3.out, hb3⟩
            case measure => simp [intOf]; omega
          · obtain rfl : j = z.L k := by omega
            have HO := (show Hid _ from hO)
            clear hO
            go_wp2
            go_roundw
            case rel => exact ⟨k + 1, by omega, by omega, by go_num, by rw [ctxI_succ_in S n lo k hlk HQ.out, valsOf_snoc, ← List.take_of_length_le (Nat.le_of_eq (vals_len z k))]; exact HO.out, hbelj⟩
            case measure => simp [intOf]; omega
    · obtain rfl : k = hi := by omega
      go_wp2
      go_ret
      exact ⟨_, rfl, hO, hbel⟩

end Go.Proofs.Qxb6619656a
