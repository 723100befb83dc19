/-
  Contract of zzB1RequestTooBig (10).
-/
import Derived.Test.Qxb6619656aCtx
namespace Go.Proofs.Qxb6619656a
open Go.RowKit

set_option maxRecDepth 100000 in
set_option maxHeartbeats 1000000 in
theorem reqTooBig_any (a0 a1 a2 a3 a4 : ByteArray) (ga : Option Addr) (n c gb go : Nat) (S : Nat → ByteArray) (va : Option Addr) (vn vc : Nat) (z : SGrid) (w : World) (h0 : a0.size ≤ maxLen) (h1 : a1.size ≤ maxLen) (h2 : a2.size ≤ maxLen) (h3 : a3.size ≤ maxLen) (h4 : a4.size ≤ maxLen) (hn : n ≤ maxLen) (hvn : vn ≤ maxLen) (hL : ∀ i, z.L i ≤ maxLen)
    (hS : SlStr w ga n gb go S) (hz : SGridIn w va vn z) :
    Calls Try.prog 10 #[.string a0, .string a1, .string a2, .string a3, .string a4, .slice ga n c, .slice va vn vc] w (BoolRet (fun _ => True) w) := by
  unfold maxLen at h0 h1 h2 h3 h4 hn hvn hL
  have HS := (show Hid _ from hS)
  have HZ := (show Hid _ from hz)
  have HL := (show Hid _ from hL)
  clear hS hz hL
  go_enter Try.func10, Try.ntmps10
  go_wp2_with (go_at_call 30; refine (add_any _ _ _ (by omega) (by omega) (by omega) (by omega)).mono ?_; rintro e w' ⟨zq, rfl, hz2, hz3, rfl⟩)
  all_goals first
    | (go_ret; exact ⟨_, rfl, trivial, rfl⟩)
    | skip
  go_loop [15, 16] (fun s i => ∃ (k : Nat) (zz : Int), k ≤ n ∧ i = .int .i64 k ∧ s = .int .i64 zz ∧ 0 ≤ zz ∧ zz ≤ 1048577) (fun _ i => n - (intOf i).toNat)
  case atStart => exact ⟨0, _, Nat.zero_le _, rfl, rfl, by omega, by omega⟩
  case round =>
    obtain ⟨k, zz, hk, rfl, rfl, hz0, hz1⟩ := hrel
    by_cases hlt : k < n
    · obtain rfl := HS.out.addr (by omega)
      have hcell := HS.out.cell k hlt
      have hsz := HS.out.size k hlt
      unfold maxLen at hsz
      have hlt' : (k : Int) < (n : Int) := by omega
      go_wp2_with (go_at_call 30; refine (add_any _ _ _ (by omega) (by omega) (by omega) (by omega)).mono ?_; rintro e w' ⟨zr, rfl, hz4, hz5, rfl⟩)
      · go_ret
        exact ⟨_, rfl, trivial, rfl⟩
      · go_round
        case rel => exact ⟨k + 1, _, by omega, by go_num, rfl, by omega, by omega⟩
        case measure => simp [intOf]; omega
    · have hlt' : ¬ (k : Int) < (n : Int) := by omega
      go_wp2
      go_loop [15, 17] (fun s i => ∃ (k : Nat) (zz : Int), k ≤ vn ∧ i = .int .i64 k ∧ s = .int .i64 zz ∧ 0 ≤ zz ∧ zz ≤ 1048577) (fun _ i => vn - (intOf i).toNat)
      case atStart => exact ⟨0, _, Nat.zero_le _, rfl, rfl, by omega, by omega⟩
      case round =>
        obtain ⟨q, zq, hq, rfl, rfl, hq0, hq1⟩ := hrel
        by_cases hqt : q < vn
        · obtain rfl := HZ.out.addr (by omega)
          have hqt' : (q : Int) < (vn : Int) := by omega
          have hcell := HZ.out.row q hqt
          have hLq := HL.out q
          have HRow := (show Hid _ from HZ.out.cell q)
          generalize hak : z.A q = ak at *
          have HAk : Hid (0 < z.L q → ak = some ⟨z.rb q, z.ro q, none⟩) := fun h => HRow.out.addr h
          clear hak
          go_wp2_with (go_at_call 30; refine (add_any _ _ _ (by omega) (by omega) (by omega) (by omega)).mono ?_; rintro e w' ⟨zr, rfl, hz4, hz5, rfl⟩)
          · go_ret
            exact ⟨_, rfl, trivial, rfl⟩
          · go_loop [15, 18] (fun s i => ∃ (j : Nat) (zz : Int), j ≤ z.L q ∧ i = .int .i64 j ∧ s = .int .i64 zz ∧ 0 ≤ zz ∧ zz ≤ 1048577) (fun _ i => z.L q - (intOf i).toNat)
            case atStart => exact ⟨0, _, Nat.zero_le _, rfl, rfl, by omega, by omega⟩
            case round =>
              obtain ⟨j, zj, hj, rfl, rfl, hj0, hj1⟩ := hrel
              by_cases hjt : j < z.L q
              · have hjt' : (j : Int) < (z.L q : Int) := by omega
                have c1 := HRow.out.cell j hjt
                have s1 := HRow.out.size j hjt
                unfold maxLen at s1
                obtain rfl := HAk.out (by omega)
                go_wp2_with (go_at_call 30; refine (add_any _ _ _ (by omega) (by omega) (by omega) (by omega)).mono ?_; rintro e w' ⟨zs, rfl, hz6, hz7, rfl⟩)
                · go_ret
                  exact ⟨_, rfl, trivial, rfl⟩
                · go_round
                  case rel => exact ⟨j + 1, _, by omega, by go_num, rfl, by omega, by omega⟩
                  case measure => simp [intOf]; omega
              · have hjt' : ¬ (j : Int) < (z.L q : Int) := by omega
                go_wp2
                go_round
                case rel => exact ⟨q + 1, _, by omega, by go_num, rfl, by omega, by omega⟩
                case measure => simp [intOf]; omega
        · have hqt' : ¬ (q : Int) < (vn : Int) := by omega
          go_wp2
          go_ret
          exact ⟨_, rfl, trivial, rfl⟩

end Go.Proofs.Qxb6619656a
