/-
  The contract of zzBytes (4).
-/
import Derived.Test.Qxb6623411aPtrs
namespace Go.Proofs.Qxb6623411a
open Go.RowKit

/-- A []string as the walks are told of it. -/
structure Strs where
  b : Nat
  o : Nat
  at_ : Nat → ByteArray
structure StrsIn (w : World) (a : Option Addr) (n c : Nat) (z : Strs) : Prop where
  len : n ≤ maxLen
  addr : 0 < n → a = some ⟨z.b, z.o, none⟩
  cell : ∀ i, i < n → w.cell? ⟨z.b, z.o + i, none⟩ = some (.string (z.at_ i))
  size : ∀ i, i < n → (z.at_ i).size ≤ maxLen

/-- A []int. -/
structure Ints where
  b : Nat
  o : Nat
  at_ : Nat → Int
structure IntsIn (w : World) (a : Option Addr) (n c : Nat) (z : Ints) : Prop where
  len : n ≤ maxLen
  addr : 0 < n → a = some ⟨z.b, z.o, none⟩
  cell : ∀ i, i < n → w.cell? ⟨z.b, z.o + i, none⟩ = some (.int .i64 (z.at_ i))
  wf : ∀ i, i < n → (Lit.int .i64 (z.at_ i)).wf = true

def BoolRet (w : World) (e : Ending) (w' : World) : Prop := ∃ b : Bool, e = .returned (.bool b) ∧ w = w'

set_option maxRecDepth 100000 in
set_option maxHeartbeats 400000 in
theorem bytes_any (ia : Option Addr) (n ic : Nat) (x y : Int) (ba : Option Addr) (bn bc : Nat) (u v : Int) (da : Option Addr) (dn dc : Nat) (zb zd : Strs) (w : World) (hn : n ≤ maxLen) (hb : StrsIn w ba bn bc zb) (hd : StrsIn w da dn dc zd) :
    Calls Try.prog 4 #[.slice ia n ic, .int .i64 x, .int .i64 y, .slice ba bn bc, .int .u64 u, .int .u64 v, .slice da dn dc] w (BoolRet w) := by
  have hbn := hb.len
  have hdn := hd.len
  have HB := (show Hid _ from hb)
  have HD := (show Hid _ from hd)
  clear hb hd
  unfold maxLen at hn hbn hdn
  by_cases h0 : (1048576 : Int) < (n : Int)
  · go_enter Try.func4, Try.ntmps4
    go_wp2
    go_ret
    exact ⟨_, rfl, rfl⟩
  · by_cases h1 : (1048576 : Int) < (bn : Int)
    · go_enter Try.func4, Try.ntmps4
      go_wp2
      go_ret
      exact ⟨_, rfl, rfl⟩
    · by_cases h2 : (1048576 : Int) < (n : Int) + (bn : Int)
      · go_enter Try.func4, Try.ntmps4
        go_wp2
        go_ret
        exact ⟨_, rfl, rfl⟩
      · go_enter Try.func4, Try.ntmps4
        go_wp2
        go_loop [15, 16] (fun z i => ∃ (k : Nat) (zz : Int), k ≤ bn ∧ i = .int .i64 k ∧ z = .int .i64 zz ∧ 0 ≤ zz ∧ zz ≤ 1048576) (fun _ i => bn - (intOf i).toNat)
        case atStart => exact ⟨0, _, Nat.zero_le _, rfl, rfl, by omega, by omega⟩
        case round =>
          obtain ⟨k, zz, hk, rfl, rfl, hz0, hz1⟩ := hrel
          by_cases hlt : k < bn
          · obtain rfl := HB.out.addr (by omega)
            have hcell := HB.out.cell k hlt
            have hsz := HB.out.size k hlt
            unfold maxLen at hsz
            have hlt' : (k : Int) < (bn : Int) := by omega
            go_wp2
            · go_ret
              exact ⟨_, rfl, rfl⟩
            · go_ret
              exact ⟨_, rfl, rfl⟩
            · go_round
              case rel => exact ⟨k + 1, _, by omega, by go_num, rfl, by omega, by omega⟩
              case measure => simp [intOf]; omega
          · obtain rfl : k = bn := by omega
            by_cases h3 : (1048576 : Int) < (dn : Int)
            · go_wp2
              go_ret
              exact ⟨_, rfl, rfl⟩
            · by_cases h4 : (1048576 : Int) < zz + (dn : Int)
              · go_wp2
                go_ret
                exact ⟨_, rfl, rfl⟩
              · go_wp2
                go_loop [15, 17] (fun z i => ∃ (k : Nat) (zz : Int), k ≤ dn ∧ i = .int .i64 k ∧ z = .int .i64 zz ∧ 0 ≤ zz ∧ zz ≤ 1048576) (fun _ i => dn - (intOf i).toNat)
                case atStart => exact ⟨0, _, Nat.zero_le _, rfl, rfl, by omega, by omega⟩
                case round =>
                  obtain ⟨j, yy, hj, rfl, rfl, hy0, hy1⟩ := hrel
                  by_cases hjt : j < dn
                  · obtain rfl := HD.out.addr (by omega)
                    have hcell := HD.out.cell j hjt
                    have hsz := HD.out.size j hjt
                    unfold maxLen at hsz
                    have hjt' : (j : Int) < (dn : Int) := by omega
                    go_wp2
                    · go_ret
                      exact ⟨_, rfl, rfl⟩
                    · go_ret
                      exact ⟨_, rfl, rfl⟩
                    · go_round
                      case rel => exact ⟨j + 1, _, by omega, by go_num, rfl, by omega, by omega⟩
                      case measure => simp [intOf]; omega
                  · obtain rfl : j = dn := by omega
                    go_wp2
                    go_ret
                    exact ⟨_, rfl, rfl⟩

end Go.Proofs.Qxb6623411a
