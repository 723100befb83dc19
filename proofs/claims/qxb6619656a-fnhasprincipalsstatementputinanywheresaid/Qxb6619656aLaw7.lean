/-
  The walk of FnHasPrincipalsSplitsAtAnyCut (7).
-/
import Derived.Test.Qxb6619656aMarks
import Derived.Test.Qxb6619656aOpenG
namespace Go.Proofs.Qxb6619656a
open Go.RowKit

/-- 'true' comes back; nothing old has turned. -/
def TrueNew (w : World) (e : Ending) (w' : World) : Prop := e = .returned (.bool true) ∧ Below w.heap.size w w'

theorem anyGrid_split (L : Nat → Nat) (B : Nat → Nat → Bool) (a : Nat) : ∀ b, anyGrid L B (a + b) = (anyGrid L B a || anyGrid (fun r => L (a + r)) (fun r => B (a + r)) b)
  | 0 => by simp [anyGrid]
  | b + 1 => by
    show (anyGrid L B (a + b) || anyRow (B (a + b)) (L (a + b))) = _
    rw [anyGrid_split L B a b]
    simp only [anyGrid, Bool.or_assoc]

/-- The rows from the k-th on. -/
def Grid.from_ (z : Grid) (k : Nat) : Grid := ⟨z.b, z.o + k, fun r => z.A (k + r), fun r => z.L (k + r), fun r => z.C (k + r), fun r => z.rb (k + r), fun r => z.ro (k + r), fun r => z.B (k + r)⟩

theorem GridIn.to {w : World} {a a' : Option Addr} {n : Nat} {z : Grid} (h : GridIn w a n z) (k : Nat) (hk : k ≤ n) (ha : 0 < k → a' = some ⟨z.b, z.o, none⟩) : GridIn w a' k z :=
  ⟨ha, fun r hr => h.row r (by omega), fun r hr => h.cell r (by omega)⟩

theorem GridIn.from_ {w : World} {a a' : Option Addr} {n : Nat} {z : Grid} (h : GridIn w a n z) (k : Nat) (hk : k ≤ n) (ha : 0 < n - k → a' = some ⟨z.b, z.o + k, none⟩) : GridIn w a' (n - k) (z.from_ k) :=
  ⟨ha, fun r hr => by have := h.row (k + r) (by omega); rw [← Nat.add_assoc] at this; exact this, fun r hr c hc => h.cell (k + r) (by omega) c hc⟩

set_option maxRecDepth 100000 in
set_option maxHeartbeats 400000 in
theorem law7_mid (ga : Option Addr) (G Gc cut : Nat) (z : Grid) (w : World) (hG : G ≤ 1048576) (hL : ∀ r, r < G → z.L r ≤ 1048576) (hz : GridIn w ga G z) (hcap : G ≤ Gc) (hcut : cut ≤ G) :
    Calls Try.prog 7 #[.slice ga G Gc, .int .i64 cut] w (TrueNew w) := by
  have hcut' : (cut : Int) ≤ (G : Int) := by omega
  have d1 : ¬ ((cut : Int) < 0) := by omega
  have d2 : ¬ (G < cut) := by omega
  have HB : Hid (∀ w', w' = w → Calls Try.prog 25 #[.slice ga G Gc, .int .i64 cut] w' (BoolRet (fun b => b = true → G ≤ 1048576 ∧ ∀ i, i < G → z.L i ≤ 1048576) w')) := fun w' h => by
    subst h; exact bytesMarks25 ga G Gc z cut w' (by unfold maxLen; omega) (fun i hi => by have := hL i hi; unfold maxLen; omega) hz
  have HN : Hid (∀ w', w' = w → Calls Try.prog 26 #[.slice ga G Gc] w' (BoolRet (fun _ => True) w')) := fun w' h => by
    subst h; exact marksTooBig_any ga G Gc z w' (by unfold maxLen; omega) (fun i hi => by have := hL i hi; unfold maxLen; omega) hz
  have HW : Hid (∀ w', Below w.heap.size w w' → Calls Try.prog 27 #[.slice ga G Gc] w' (BoolNew (anyGrid z.L z.B G) w')) := fun w' h => zzHasPrin_any ga G Gc z w' hG hL (hz.later h)
  have HL1 : Hid (∀ a' w', Below w.heap.size w w' → (0 < cut → a' = some ⟨z.b, z.o, none⟩) → Calls Try.prog 27 #[.slice a' cut Gc] w' (BoolNew (anyGrid z.L z.B cut) w')) := fun a' w' h ha =>
    zzHasPrin_any a' cut Gc z w' (by omega) (fun r hr => hL r (by omega)) ((hz.later h).to cut hcut ha)
  have HR1 : Hid (∀ a' c' w', Below w.heap.size w w' → (0 < G - cut → a' = some ⟨z.b, z.o + cut, none⟩) → Calls Try.prog 27 #[.slice a' (G - cut) c'] w' (BoolNew (anyGrid (fun r => z.L (cut + r)) (fun r => z.B (cut + r)) (G - cut)) w')) := fun a' c' w' h ha =>
    zzHasPrin_any a' (G - cut) c' (z.from_ cut) w' (by omega) (fun r hr => hL (cut + r) (by omega)) ((hz.later h).from_ cut hcut ha)
  have HA : Hid (∀ w', Below w.heap.size w w' → Calls Try.prog 28 #[.slice ga G Gc] w' (BoolIs' (anyGrid z.L z.B G) w')) := fun w' h => anyMark_any ga G Gc z w' hG hL (hz.later h)
  have hsp := anyGrid_split z.L z.B cut (G - cut)
  rw [show cut + (G - cut) = G by omega] at hsp
  have HAddr := (show Hid _ from hz.addr)
  clear hz hL
  rw [hsp] at HW HA
  generalize anyGrid z.L z.B cut = lf at *
  generalize anyGrid (fun r => z.L (cut + r)) (fun r => z.B (cut + r)) (G - cut) = rt at *
  clear hsp
  go_enter Try.func7, Try.ntmps7
  go_wp2_with fail
  refine (HB.out _ rfl).mono ?_
  rintro e w' ⟨b, rfl, _, rfl⟩
  cases b
  · go_wp2
    go_ret
    exact ⟨rfl, Below.refl _ _⟩
  go_wp2_with fail
  refine (HN.out _ rfl).mono ?_
  rintro e w' ⟨b, rfl, _, rfl⟩
  cases b
  rotate_left
  · go_wp2
    go_ret
    exact ⟨rfl, Below.refl _ _⟩
  clear HB HN
  go_wp2_with fail
  refine (HW.out _ (Below.refl _ _)).mono ?_
  rintro e w1 ⟨rfl, hb1⟩
  go_wp2_with fail
  refine (HL1.out _ _ hb1 (fun h => HAddr.out (by omega))).mono ?_
  rintro e w2 ⟨rfl, hb2'⟩
  have hb2 := hb1.trans (hb2'.mono hb1.size)
  clear hb1 hb2'
  by_cases hcc : Gc = cut
  · subst hcc
    rw [show G - Gc = 0 by omega] at HR1
    go_wp2_with fail
    refine (HR1.out _ _ _ hb2 (fun h => absurd h (Nat.lt_irrefl _))).mono ?_
    rintro e w3 ⟨rfl, hb3'⟩
    have hb3 := hb2.trans (hb3'.mono hb2.size)
    clear hb2 hb3'
    cases lf <;> cases rt
    all_goals
      go_wp2_with fail
      refine (HA.out _ hb3).mono ?_
      rintro e w4 ⟨rfl, rfl⟩
      go_wp2
      go_ret
      exact ⟨rfl, hb3⟩
  · go_wp2_with fail
    refine (HR1.out _ _ _ hb2 (fun h => by rw [HAddr.out (by omega)]; simp [Addr.add_lit])).mono ?_
    rintro e w3 ⟨rfl, hb3'⟩
    have hb3 := hb2.trans (hb3'.mono hb2.size)
    clear hb2 hb3'
    cases lf <;> cases rt
    all_goals
      go_wp2_with fail
      refine (HA.out _ hb3).mono ?_
      rintro e w4 ⟨rfl, rfl⟩
      go_wp2
      go_ret
      exact ⟨rfl, hb3⟩

set_option maxRecDepth 100000 in
set_option maxHeartbeats 400000 in
theorem law7_out (ga : Option Addr) (G Gc : Nat) (cut : Int) (z : Grid) (w : World) (hn : G ≤ maxLen) (hs : ∀ i, i < G → z.L i ≤ maxLen) (hz : GridIn w ga G z)
    (hout : (G ≤ 1048576 ∧ ∀ r, r < G → z.L r ≤ 1048576) → cut < 0 ∨ (0 ≤ cut ∧ G < cut)) :
    Calls Try.prog 7 #[.slice ga G Gc, .int .i64 cut] w (TrueNew w) := by
  have HB : Hid (∀ w', w' = w → Calls Try.prog 25 #[.slice ga G Gc, .int .i64 cut] w' (BoolRet (fun b => b = true → G ≤ 1048576 ∧ ∀ i, i < G → z.L i ≤ 1048576) w')) := fun w' h => by
    subst h; exact bytesMarks25 ga G Gc z cut w' hn hs hz
  have HN : Hid (∀ w', w' = w → Calls Try.prog 26 #[.slice ga G Gc] w' (BoolRet (fun _ => True) w')) := fun w' h => by
    subst h; exact marksTooBig_any ga G Gc z w' hn hs hz
  have HO := (show Hid _ from hout)
  clear hout hz hs
  go_enter Try.func7, Try.ntmps7
  go_wp2_with fail
  refine (HB.out _ rfl).mono ?_
  rintro e w' ⟨b, rfl, hb, rfl⟩
  cases b
  · clear hb
    go_wp2
    go_ret
    exact ⟨rfl, Below.refl _ _⟩
  have HCA := (show Hid _ from HO.out (hb rfl))
  clear hb
  go_wp2_with fail
  refine (HN.out _ rfl).mono ?_
  rintro e w' ⟨b, rfl, _, rfl⟩
  cases b
  rotate_left
  · go_wp2
    go_ret
    exact ⟨rfl, Below.refl _ _⟩
  rcases HCA.out with h1 | ⟨h1, h2⟩
  all_goals
    clear HB HN HO HCA
    go_wp2
    go_ret
    exact ⟨rfl, Below.refl _ _⟩

theorem law7_any (ga : Option Addr) (G Gc : Nat) (cut : Int) (z : Grid) (w : World) (hn : G ≤ maxLen) (hs : ∀ i, i < G → z.L i ≤ maxLen) (hz : GridIn w ga G z) (hcap : G ≤ Gc) :
    Calls Try.prog 7 #[.slice ga G Gc, .int .i64 cut] w (TrueNew w) := by
  by_cases hall : (G ≤ 1048576 ∧ ∀ i, i < G → z.L i ≤ 1048576) ∧ (0 ≤ cut ∧ cut ≤ G)
  · obtain ⟨⟨h1, h2⟩, h3, h4⟩ := hall
    obtain ⟨k, rfl⟩ := Int.eq_ofNat_of_zero_le h3
    exact law7_mid ga G Gc k z w h1 h2 hz hcap (by omega)
  · refine law7_out ga G Gc cut z w hn hs hz (fun h => ?_)
    have : ¬ (0 ≤ cut ∧ cut ≤ G) := fun h' => hall ⟨h, h'⟩
    omega

theorem walk7 (a0 : Option Addr) (n c : Nat) (a1 : Int) (z : Grid) (w : World) (h : GridArg w a0 n c z) (_w1 : (Lit.int .i64 a1).wf = true) :
    Calls Try.prog 7 #[.slice a0 n c, .int .i64 a1] w (TrueNew w) :=
  law7_any a0 n c a1 z w h.len h.lens h.grid h.cap

end Go.Proofs.Qxb6619656a
