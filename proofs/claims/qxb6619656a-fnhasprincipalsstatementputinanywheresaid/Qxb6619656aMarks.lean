/-
  Contracts of zzB1AnyMark (28), zzBytes over [][]bool (25, 29), zzB1MarksTooBig (26).
-/
import Derived.Test.Qxb6619656aZzp
namespace Go.Proofs.Qxb6619656a
open Go.RowKit

/-- A bool comes back; the world is as it was. -/
def BoolIs' (b : Bool) (w : World) (e : Ending) (w' : World) : Prop := e = .returned (.bool b) ∧ w = w'

set_option maxRecDepth 100000 in
set_option maxHeartbeats 400000 in
theorem anyMark_any (ga : Option Addr) (G Gc : Nat) (z : Grid) (w : World) (hG : G ≤ 1048576) (hL : ∀ r, r < G → z.L r ≤ 1048576) (hz : GridIn w ga G z) :
    Calls Try.prog 28 #[.slice ga G Gc] w (BoolIs' (anyGrid z.L z.B G) w) := by
  have HL := (show Hid _ from hL)
  have HZ : Hid (GridIn w ga G z) := hz
  clear hL hz
  go_enter Try.func28, Try.ntmps28
  go_wp2
  go_loop [3] (fun i => ∃ k : Nat, k ≤ G ∧ i = .int .i64 k ∧ anyGrid z.L z.B k = false) (fun i => G - (intOf i).toNat)
  case atStart => exact ⟨0, Nat.zero_le _, rfl, rfl⟩
  case round =>
    obtain ⟨k, hk, rfl, hno⟩ := hrel
    have HN := (show Hid _ from hno)
    clear hno
    by_cases hlt : k < G
    · have hlt' : (k : Int) < (G : Int) := by omega
      have hLk := HL.out k hlt
      obtain rfl := HZ.out.addr (by omega)
      have c0 := HZ.out.row k hlt
      go_wp2
      go_loop [4] (fun i => ∃ j : Nat, j ≤ z.L k ∧ i = .int .i64 j ∧ anyRow (z.B k) j = false) (fun i => z.L k - (intOf i).toNat)
      case atStart => exact ⟨0, Nat.zero_le _, rfl, rfl⟩
      case round =>
        obtain ⟨j, hj, rfl, hnoj⟩ := hrel
        have HNj := (show Hid _ from hnoj)
        clear hnoj
        by_cases hjl : j < z.L k
        · have hjl' : (j : Int) < (z.L k : Int) := by omega
          obtain ⟨eA, c1⟩ := HZ.out.cell k hlt j hjl
          rw [eA] at c0
          clear eA
          cases hm : z.B k j with
          | false =>
            rw [hm] at c1
            go_wp2
            go_round
            case rel => exact ⟨j + 1, by omega, by go_num, by simp only [anyRow]; rw [HNj.out, hm]; rfl⟩
            case measure => simp [intOf]; omega
          | true =>
            rw [hm] at c1
            go_wp2
            go_ret
            have := anyGrid_at z.L z.B G k hlt (anyRow_at (z.B k) (z.L k) j hjl hm)
            exact ⟨by rw [this]; rfl, rfl⟩
        · obtain rfl : j = z.L k := by omega
          go_wp2
          go_round
          case rel => exact ⟨k + 1, by omega, by go_num, by simp only [anyGrid]; rw [HN.out, HNj.out]; rfl⟩
          case measure => simp [intOf]; omega
    · obtain rfl : k = G := by omega
      go_wp2
      go_ret
      exact ⟨by rw [HN.out]; rfl, rfl⟩

set_option maxRecDepth 100000 in
set_option maxHeartbeats 400000 in
theorem bytesMarks25 (ga : Option Addr) (n c : Nat) (z : Grid) (x1 : Int) (w : World) (hn : n ≤ maxLen) (hs : ∀ i, i < n → z.L i ≤ maxLen) (hz : GridIn w ga n z) :
    Calls Try.prog 25 #[.slice ga n c, .int .i64 x1] w (BoolRet (fun b => b = true → n ≤ 1048576 ∧ ∀ i, i < n → z.L i ≤ 1048576) w) := by
  unfold maxLen at hn hs
  have HZ : Hid (GridIn w ga n z) := hz
  have HSS := (show Hid _ from hs)
  clear hz hs
  by_cases h0 : 1048576 < n
  · have h0' : (1048576 : Int) < (n : Int) := by omega
    go_enter Try.func25, Try.ntmps25
    go_wp2
    go_ret
    exact ⟨_, rfl, by simp, rfl⟩
  · have h0' : ¬ (1048576 : Int) < (n : Int) := by omega
    go_enter Try.func25, Try.ntmps25
    go_wp2
    go_loop [5, 6] (fun s i => ∃ (k : Nat) (zz : Int), k ≤ n ∧ i = .int .i64 k ∧ s = .int .i64 zz ∧ 0 ≤ zz ∧ zz ≤ 1048576 ∧ ∀ j, j < k → z.L j ≤ 1048576) (fun _ i => n - (intOf i).toNat)
    case atStart => exact ⟨0, n, Nat.zero_le _, rfl, rfl, by omega, by omega, fun j hj => absurd hj (Nat.not_lt_zero _)⟩
    case round =>
      obtain ⟨k, zz, hk, rfl, rfl, hz0, hz1, hall⟩ := hrel
      have HA := (show Hid _ from hall)
      clear hall
      by_cases hlt : k < n
      · obtain rfl := HZ.out.addr (by omega)
        have hcell := HZ.out.row k hlt
        have hsz := HSS.out k hlt
        have hlt' : (k : Int) < (n : Int) := by omega
        go_wp2
        · go_ret
          exact ⟨_, rfl, by simp, rfl⟩
        · go_ret
          exact ⟨_, rfl, by simp, rfl⟩
        · go_round
          case rel =>
            refine ⟨k + 1, _, by omega, by go_num, rfl, by omega, by omega, fun j hj => ?_⟩
            by_cases e : j = k
            · subst e; omega
            · exact HA.out j (by omega)
          case measure => simp [intOf]; omega
      · go_wp2
        go_ret
        exact ⟨_, rfl, fun _ => ⟨by omega, fun i hi => HA.out i (by omega)⟩, rfl⟩

set_option maxRecDepth 100000 in
set_option maxHeartbeats 400000 in
theorem bytesMarks29 (ga : Option Addr) (n c : Nat) (z : Grid) (x1 x2 : Int) (b1 : Bool) (w : World) (hn : n ≤ maxLen) (hs : ∀ i, i < n → z.L i ≤ maxLen) (hz : GridIn w ga n z) :
    Calls Try.prog 29 #[.slice ga n c, .int .i64 x1, .int .i64 x2, .bool b1] w (BoolRet (fun b => b = true → n ≤ 1048576 ∧ ∀ i, i < n → z.L i ≤ 1048576) w) := by
  unfold maxLen at hn hs
  have HZ : Hid (GridIn w ga n z) := hz
  have HSS := (show Hid _ from hs)
  clear hz hs
  by_cases h0 : 1048576 < n
  · have h0' : (1048576 : Int) < (n : Int) := by omega
    go_enter Try.func29, Try.ntmps29
    go_wp2
    go_ret
    exact ⟨_, rfl, by simp, rfl⟩
  · have h0' : ¬ (1048576 : Int) < (n : Int) := by omega
    go_enter Try.func29, Try.ntmps29
    go_wp2
    go_loop [9, 10] (fun s i => ∃ (k : Nat) (zz : Int), k ≤ n ∧ i = .int .i64 k ∧ s = .int .i64 zz ∧ 0 ≤ zz ∧ zz ≤ 1048576 ∧ ∀ j, j < k → z.L j ≤ 1048576) (fun _ i => n - (intOf i).toNat)
    case atStart => exact ⟨0, n, Nat.zero_le _, rfl, rfl, by omega, by omega, fun j hj => absurd hj (Nat.not_lt_zero _)⟩
    case round =>
      obtain ⟨k, zz, hk, rfl, rfl, hz0, hz1, hall⟩ := hrel
      have HA := (show Hid _ from hall)
      clear hall
      by_cases hlt : k < n
      · obtain rfl := HZ.out.addr (by omega)
        have hcell := HZ.out.row k hlt
        have hsz := HSS.out k hlt
        have hlt' : (k : Int) < (n : Int) := by omega
        go_wp2
        · go_ret
          exact ⟨_, rfl, by simp, rfl⟩
        · go_ret
          exact ⟨_, rfl, by simp, rfl⟩
        · go_round
          case rel =>
            refine ⟨k + 1, _, by omega, by go_num, rfl, by omega, by omega, fun j hj => ?_⟩
            by_cases e : j = k
            · subst e; omega
            · exact HA.out j (by omega)
          case measure => simp [intOf]; omega
      · go_wp2
        go_ret
        exact ⟨_, rfl, fun _ => ⟨by omega, fun i hi => HA.out i (by omega)⟩, rfl⟩

set_option maxRecDepth 100000 in
set_option maxHeartbeats 400000 in
theorem marksTooBig_any (ga : Option Addr) (n c : Nat) (z : Grid) (w : World) (hn : n ≤ maxLen) (hs : ∀ i, i < n → z.L i ≤ maxLen) (hz : GridIn w ga n z) :
    Calls Try.prog 26 #[.slice ga n c] w (BoolRet (fun _ => True) w) := by
  unfold maxLen at hn hs
  have HZ : Hid (GridIn w ga n z) := hz
  have HSS := (show Hid _ from hs)
  clear hz hs
  go_enter Try.func26, Try.ntmps26
  go_wp2
  go_loop [3, 4] (fun s i => ∃ (k : Nat) (zz : Int), k ≤ n ∧ i = .int .i64 k ∧ s = .int .i64 zz ∧ 0 ≤ zz ∧ zz ≤ 1048577) (fun _ i => n - (intOf i).toNat)
  case atStart => exact ⟨0, 0, Nat.zero_le _, rfl, rfl, by omega, by omega⟩
  case round =>
    obtain ⟨k, zz, hk, rfl, rfl, hz0, hz1⟩ := hrel
    by_cases hlt : k < n
    · obtain rfl := HZ.out.addr (by omega)
      have hcell := HZ.out.row k hlt
      have hsz := HSS.out k hlt
      have hlt' : (k : Int) < (n : Int) := by omega
      go_wp2_with (go_at_call 30; refine (add_any _ _ _ (by omega) (by omega) (by omega) (by omega)).mono ?_; rintro e w' ⟨zq, rfl, hz2, hz3, rfl⟩)
      · go_ret
        exact ⟨_, rfl, trivial, rfl⟩
      · go_round
        case rel => exact ⟨k + 1, _, by omega, by go_num, rfl, by omega, by omega⟩
        case measure => simp [intOf]; omega
    · go_wp2
      go_ret
      exact ⟨_, rfl, trivial, rfl⟩

end Go.Proofs.Qxb6619656a
