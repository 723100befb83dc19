/-
  The walk of FnRequestTextContextSplitsAtAnyCut (3), for every input.
-/
import Derived.Test.Qxb6619656aLaw3f
import Derived.Test.Qxb6619656aLaw3t
namespace Go.Proofs.Qxb6619656a
open Go.RowKit

set_option maxRecDepth 100000 in
set_option maxHeartbeats 1000000 in
theorem law3_out (a0 a1 : ByteArray) (hp : Bool) (a3 a4 : ByteArray) (ga : Option Addr) (n c gb go : Nat) (S : Nat → ByteArray) (va : Option Addr) (vn vc : Nat) (cut : Int) (z : SGrid) (w : World) (h0 : a0.size ≤ maxLen) (h1 : a1.size ≤ maxLen) (h3 : a3.size ≤ maxLen) (h4 : a4.size ≤ maxLen)
    (hn : n ≤ maxLen) (hvn : vn ≤ maxLen) (hL : ∀ i, z.L i ≤ maxLen) (hcut : cut < 0 ∨ (0 ≤ cut ∧ n < cut)) (hS : SlStr w ga n gb go S) (hz : SGridIn w va vn z) :
    Calls Try.prog 3 #[.string a0, .string a1, .bool hp, .string a3, .string a4, .slice ga n c, .slice va vn vc, .int .i64 cut] w (TrueB w) := by
  have HB : Hid (∀ w', w' = w → Calls Try.prog 9 #[.string a0, .string a1, .bool hp, .string a3, .string a4, .slice ga n c, .slice va vn vc, .int .i64 cut] w' (BoolRet (fun b => b = true → n ≤ 1048576 ∧ vn ≤ 1048576 ∧ ∀ i, z.L i ≤ 1048576) w')) := fun w' h => by
    subst h; exact bytesReq9 a0 a1 hp a3 a4 cut ga n c gb go S va vn vc z w' h0 h1 h3 h4 hn hvn hL hS hz
  have HN : Hid (∀ w', w' = w → Calls Try.prog 10 #[.string a0, .string a1, .string a3, .string ⟨#[]⟩, .string a4, .slice ga n c, .slice va vn vc] w' (BoolRet (fun _ => True) w')) := fun w' h => by
    subst h; exact reqTooBig_any a0 a1 a3 ⟨#[]⟩ a4 ga n c gb go S va vn vc z w' h0 h1 h3 (by decide) h4 hn hvn hL hS hz
  clear hS hz hL h0 h1 h3 h4 hn hvn
  have HCA := (show Hid _ from hcut)
  clear hcut
  go_enter Try.func3, Try.ntmps3
  go_wp2_with fail
  refine (HB.out _ rfl).mono ?_
  rintro e w' ⟨b, rfl, hb, rfl⟩
  cases b
  · clear hb
    go_wp2
    go_ret
    exact ⟨rfl, Below.refl _ _⟩
  clear hb
  go_wp2_with fail
  refine (HN.out _ rfl).mono ?_
  rintro e w' ⟨b, rfl, _, rfl⟩
  cases b
  rotate_left
  · go_wp2
    go_ret
    exact ⟨rfl, Below.refl _ _⟩
  rcases HCA.out with q1 | ⟨q1, q2⟩
  all_goals
    clear HB HN HCA
    go_wp2
    go_ret
    exact ⟨rfl, Below.refl _ _⟩

theorem walk3 (a0 a1 : ByteArray) (hp : Bool) (a3 a4 : ByteArray) (ga : Option Addr) (n c : Nat) (va : Option Addr) (vn vc : Nat) (cut : Int) (y : Strs) (z : SGrid) (w : World) (h0 : a0.size ≤ maxLen) (h1 : a1.size ≤ maxLen) (h3 : a3.size ≤ maxLen) (h4 : a4.size ≤ maxLen) (hy : StrsIn w ga n c y) (hz : SGridArg w va vn vc z) (_hc : (Lit.int .i64 cut).wf = true) :
    Calls Try.prog 3 #[.string a0, .string a1, .bool hp, .string a3, .string a4, .slice ga n c, .slice va vn vc, .int .i64 cut] w (TrueB w) := by
  by_cases hc : 0 ≤ cut ∧ cut ≤ n
  · obtain ⟨k, rfl⟩ := Int.eq_ofNat_of_zero_le hc.1
    cases hp with
    | false => exact law3_false a0 a1 a3 a4 ga n c y.b y.o y.at_ va vn vc k z w h0 h1 h3 h4 hy.len hz.len hz.lens (by omega) (Strs.slStr hy) hz.grid
    | true => exact law3_true a0 a1 a3 a4 ga n c y.b y.o y.at_ va vn vc k z w h0 h1 h3 h4 hy.len hz.len hz.lens (by omega) (Strs.slStr hy) hz.grid
  · exact law3_out a0 a1 hp a3 a4 ga n c y.b y.o y.at_ va vn vc cut z w h0 h1 h3 h4 hy.len hz.len hz.lens (by omega) (Strs.slStr hy) hz.grid

end Go.Proofs.Qxb6619656a
