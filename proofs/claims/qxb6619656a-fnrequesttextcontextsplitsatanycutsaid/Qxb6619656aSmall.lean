/-
  Contracts of the small functions: zzB1Add (30), zzBytes over []string (18, 22), zzB1NamesTooBig (19).
-/
import Derived.Test.Qxb6619656aProg
import Derived.WalkKit
import Derived.WalkSpells
import Derived.WalkLawsBesides
namespace Go.Proofs.Qxb6619656a
open Go.RowKit

/-- A bool comes back, of which p holds; the world is as it was. -/
def BoolRet (p : Bool → Prop) (w : World) (e : Ending) (w' : World) : Prop := ∃ b : Bool, e = .returned (.bool b) ∧ p b ∧ w = w'

set_option maxHeartbeats 400000 in
theorem add_any (t n : Int) (w : World) (ht : 0 ≤ t) (ht2 : t ≤ 1048577) (hn : 0 ≤ n) (hn2 : n ≤ 9223372036854775807) :
    Calls Try.prog 30 #[.int .i64 t, .int .i64 n] w fun e w' => ∃ z : Int, e = .returned (.int .i64 z) ∧ 0 ≤ z ∧ z ≤ 1048577 ∧ w = w' := by
  by_cases h1 : 1048576 < t
  · go_enter Try.func30, Try.ntmps30
    go_wp2
    go_ret
    exact ⟨_, rfl, by omega, by omega, rfl⟩
  · by_cases h2 : 1048576 - t < n
    · go_enter Try.func30, Try.ntmps30
      go_wp2
      go_ret
      exact ⟨_, rfl, by omega, by omega, rfl⟩
    · go_enter Try.func30, Try.ntmps30
      go_wp2
      go_ret
      exact ⟨_, rfl, by omega, by omega, rfl⟩

set_option maxHeartbeats 400000 in
theorem bytesNames18 (ga : Option Addr) (gb go n c : Nat) (S : Nat → ByteArray) (x1 x2 x3 : Int) (b1 b2 : Bool) (w : World) (hn : n ≤ maxLen) (hga : 0 < n → ga = some ⟨gb, go, none⟩)
    (hc : ∀ i, i < n → w.cell? ⟨gb, go + i, none⟩ = some (.string (S i))) (hs : ∀ i, i < n → (S i).size ≤ maxLen) :
    Calls Try.prog 18 #[.slice ga n c, .int .i64 x1, .int .i64 x2, .int .i64 x3, .bool b1, .bool b2] w (BoolRet (fun b => b = true → n ≤ 1048576 ∧ ∀ i, i < n → (S i).size ≤ 1048576) w) := by
  unfold maxLen at hn hs
  by_cases h0 : 1048576 < n
  · have h0' : (1048576 : Int) < (n : Int) := by omega
    go_enter Try.func18, Try.ntmps18
    go_wp2
    go_ret
    exact ⟨_, rfl, by simp, rfl⟩
  · have h0' : ¬ (1048576 : Int) < (n : Int) := by omega
    go_enter Try.func18, Try.ntmps18
    go_wp2
    go_loop [13, 14] (fun z i => ∃ (k : Nat) (zz : Int), k ≤ n ∧ i = .int .i64 k ∧ z = .int .i64 zz ∧ 0 ≤ zz ∧ zz ≤ 1048576 ∧ ∀ j, j < k → (S j).size ≤ 1048576) (fun _ i => n - (intOf i).toNat)
    case atStart => exact ⟨0, n, Nat.zero_le _, rfl, rfl, by omega, by omega, fun j hj => absurd hj (Nat.not_lt_zero _)⟩
    case round =>
      obtain ⟨k, zz, hk, rfl, rfl, hz0, hz1, hall⟩ := hrel
      have HA : Hid (∀ j, j < k → (S j).size ≤ 1048576) := hall
      clear hall
      by_cases hlt : k < n
      · obtain rfl := hga (by omega)
        have hcell := hc k hlt
        have hsz := hs k hlt
        have hlt' : (k : Int) < (n : Int) := by omega
        clear hc hs hga
        go_wp2
        · go_ret
          exact ⟨_, rfl, by simp, rfl⟩
        · go_ret
          exact ⟨_, rfl, by simp, rfl⟩
        · go_round
          case rel =>
            refine ⟨k + 1, _, by omega, by go_num, rfl, by omega, by omega, fun j hj => ?_⟩
            by_cases e : j = k
            · subst e; omega
            · exact HA.out j (by omega)
          case measure => simp [intOf]; omega
      · go_wp2
        go_ret
        exact ⟨_, rfl, fun _ => ⟨by omega, fun i hi => HA.out i (by omega)⟩, rfl⟩

set_option maxHeartbeats 400000 in
theorem bytesNames22 (ga : Option Addr) (gb go n c : Nat) (S : Nat → ByteArray) (x1 x2 : Int) (w : World) (hn : n ≤ maxLen) (hga : 0 < n → ga = some ⟨gb, go, none⟩)
    (hc : ∀ i, i < n → w.cell? ⟨gb, go + i, none⟩ = some (.string (S i))) (hs : ∀ i, i < n → (S i).size ≤ maxLen) :
    Calls Try.prog 22 #[.slice ga n c, .int .i64 x1, .int .i64 x2] w (BoolRet (fun b => b = true → n ≤ 1048576 ∧ ∀ i, i < n → (S i).size ≤ 1048576) w) := by
  unfold maxLen at hn hs
  by_cases h0 : 1048576 < n
  · have h0' : (1048576 : Int) < (n : Int) := by omega
    go_enter Try.func22, Try.ntmps22
    go_wp2
    go_ret
    exact ⟨_, rfl, by simp, rfl⟩
  · have h0' : ¬ (1048576 : Int) < (n : Int) := by omega
    go_enter Try.func22, Try.ntmps22
    go_wp2
    go_loop [7, 8] (fun z i => ∃ (k : Nat) (zz : Int), k ≤ n ∧ i = .int .i64 k ∧ z = .int .i64 zz ∧ 0 ≤ zz ∧ zz ≤ 1048576 ∧ ∀ j, j < k → (S j).size ≤ 1048576) (fun _ i => n - (intOf i).toNat)
    case atStart => exact ⟨0, n, Nat.zero_le _, rfl, rfl, by omega, by omega, fun j hj => absurd hj (Nat.not_lt_zero _)⟩
    case round =>
      obtain ⟨k, zz, hk, rfl, rfl, hz0, hz1, hall⟩ := hrel
      have HA : Hid (∀ j, j < k → (S j).size ≤ 1048576) := hall
      clear hall
      by_cases hlt : k < n
      · obtain rfl := hga (by omega)
        have hcell := hc k hlt
        have hsz := hs k hlt
        have hlt' : (k : Int) < (n : Int) := by omega
        clear hc hs hga
        go_wp2
        · go_ret
          exact ⟨_, rfl, by simp, rfl⟩
        · go_ret
          exact ⟨_, rfl, by simp, rfl⟩
        · go_round
          case rel =>
            refine ⟨k + 1, _, by omega, by go_num, rfl, by omega, by omega, fun j hj => ?_⟩
            by_cases e : j = k
            · subst e; omega
            · exact HA.out j (by omega)
          case measure => simp [intOf]; omega
      · go_wp2
        go_ret
        exact ⟨_, rfl, fun _ => ⟨by omega, fun i hi => HA.out i (by omega)⟩, rfl⟩

set_option maxHeartbeats 400000 in
theorem namesTooBig_any (ga : Option Addr) (gb go n c : Nat) (S : Nat → ByteArray) (w : World) (hn : n ≤ maxLen) (hga : 0 < n → ga = some ⟨gb, go, none⟩)
    (hc : ∀ i, i < n → w.cell? ⟨gb, go + i, none⟩ = some (.string (S i))) (hs : ∀ i, i < n → (S i).size ≤ maxLen) :
    Calls Try.prog 19 #[.slice ga n c] w (BoolRet (fun _ => True) w) := by
  unfold maxLen at hn hs
  go_enter Try.func19, Try.ntmps19
  go_wp2
  go_loop [3, 4] (fun z i => ∃ (k : Nat) (zz : Int), k ≤ n ∧ i = .int .i64 k ∧ z = .int .i64 zz ∧ 0 ≤ zz ∧ zz ≤ 1048577) (fun _ i => n - (intOf i).toNat)
  case atStart => exact ⟨0, 0, Nat.zero_le _, rfl, rfl, by omega, by omega⟩
  case round =>
    obtain ⟨k, zz, hk, rfl, rfl, hz0, hz1⟩ := hrel
    by_cases hlt : k < n
    · obtain rfl := hga (by omega)
      have hcell := hc k hlt
      have hsz := hs k hlt
      have hlt' : (k : Int) < (n : Int) := by omega
      clear hc hs hga
      go_wp2_with (go_at_call 30; refine (add_any _ _ _ (by omega) (by omega) (by omega) (by omega)).mono ?_; rintro e w' ⟨z, rfl, hz2, hz3, rfl⟩)
      · go_ret
        exact ⟨_, rfl, trivial, rfl⟩
      · go_round
        case rel => exact ⟨k + 1, _, by omega, by go_num, rfl, by omega, by omega⟩
        case measure => simp [intOf]; omega
    · go_wp2
      go_ret
      exact ⟨_, rfl, trivial, rfl⟩

end Go.Proofs.Qxb6619656a
