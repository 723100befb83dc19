/-
  The contract of ZZTransmit (9), and the plain law: what a script of transmissions leaves.
-/
import Derived.Test.Qxb6623390aTrans
namespace Go.Proofs.Qxb6623390a
open Go.RowKit

set_option maxRecDepth 100000 in
set_option maxHeartbeats 400000 in
theorem zzTransmit_any (B ab cn sn ch : Nat) (C M : Nat → Nat → Int) (s : Int) (m : Nat → Int) (w0 w : World) (hcn : cn ≤ 65537) (hsn : sn ≤ 65536) (hch : ch ≤ 65536) (h : Air B w0 ab cn sn C M) (hb0 : Below w0.heap.size w0 w) :
    Calls Try.prog 9 #[.pointer (some ⟨ab, 0, none⟩), .int .i64 s, .int .i64 ch, msgV m] w (AirKeep w0.heap.size B ab (max cn (ch + 1)) (sn + 1) (trC C cn sn s ch) (trM M sn m) w) := by
  have hlow := h.low
  have hlt := h.lt
  have hsz := hb0.size
  have H1 : Hid (∀ w', Below w.heap.size w w' → Calls Try.prog 14 #[.pointer (some ⟨ab, 0, none⟩), .int .i64 s, .int .i64 ch, msgV m] w' (AirKeep w0.heap.size B ab (max cn (ch + 1)) (sn + 1) (trC C cn sn s ch) (trM M sn m) w')) := fun w' hb => transmit_any B ab cn sn ch C M s m w0 w' hcn hsn hch h (hb0.trans (hb.mono hsz))
  clear h hb0
  unfold msgV at H1 ⊢
  go_enter Try.func9, Try.ntmps9
  go_wp2_with fail
  refine (H1.out _ (by exact (Below.refl _ _).alloc (Nat.le_refl _) _)).mono ?_
  rintro e w1 ⟨⟨v, rfl, ha, hb⟩, hk⟩
  have HA := (show Hid _ from ha)
  have HB := (show Hid _ from hb)
  have HK := (show Hid _ from hk)
  clear ha hb hk H1
  go_wp2
  go_end0
  exact ⟨⟨_, rfl, HA.out, ((Below.refl B w).alloc (by omega) _).trans HB.out⟩, Keeps.trans (Keeps.below ((Below.refl _ w).alloc (Nat.le_refl _) _) (Nat.le_refl _)) (by simp) HK.out⟩

/-- The channels' number behind j transmissions. -/
def nAt (cn : Nat) (T : Nat → Nat) : Nat → Nat
  | 0 => cn
  | j + 1 => max (nAt cn T j) (T j + 1)

/-- How many of the first j transmissions used c; the first of them (0 where there is none). -/
def cntT (T : Nat → Nat) (c : Nat) : Nat → Nat
  | 0 => 0
  | j + 1 => if T j = c then cntT T c j + 1 else cntT T c j
def fstT (T : Nat → Nat) (c : Nat) : Nat → Nat
  | 0 => 0
  | j + 1 => if T j = c ∧ cntT T c j = 0 then j else fstT T c j

/-- The channels behind j transmissions, as the law models them. -/
def chAt (cn sn : Nat) (C : Nat → Nat → Int) (s : Int) (T : Nat → Nat) (j : Nat) : Nat → Nat → Int := fun c f =>
  if cntT T c j = 0 then ext cn C c f
  else if f = 0 then s
  else if cntT T c j = 1 ∧ ext cn C c 0 ≠ s then ((sn + fstT T c j : Nat) : Int) else -1

def logAt (sn : Nat) (M X : Nat → Nat → Int) : Nat → Nat → Int := fun i f => if i < sn then M i f else X (i - sn) f

theorem nAt_ge (cn : Nat) (T : Nat → Nat) : ∀ j, cn ≤ nAt cn T j
  | 0 => Nat.le_refl _
  | j + 1 => Nat.le_trans (nAt_ge cn T j) (Nat.le_max_left _ _)
theorem nAt_gt (cn : Nat) (T : Nat → Nat) : ∀ j i, i < j → T i < nAt cn T j
  | 0, i, h => absurd h (Nat.not_lt_zero _)
  | j + 1, i, h => by
    by_cases e : i = j
    · subst e; simp only [nAt]; omega
    · have := nAt_gt cn T j i (by omega)
      simp only [nAt]; omega
theorem nAt_le (cn : Nat) (T : Nat → Nat) (K : Nat) (hcn : cn ≤ K) (j : Nat) : (∀ i, i < j → T i + 1 ≤ K) → nAt cn T j ≤ K := by
  induction j with
  | zero => intro _; exact hcn
  | succ j ih =>
    intro h
    have h1 := ih (fun i hi => h i (by omega))
    have h2 := h j (by omega)
    simp only [nAt]; omega
theorem cnt_out (cn : Nat) (T : Nat → Nat) (c : Nat) : ∀ j, nAt cn T j ≤ c → cntT T c j = 0
  | 0, _ => rfl
  | j + 1, h => by
    simp only [nAt] at h
    simp only [cntT]
    rw [if_neg (by omega)]
    exact cnt_out cn T c j (by omega)
theorem cnt_le (T : Nat → Nat) (c : Nat) : ∀ j, cntT T c j ≤ j
  | 0 => Nat.le_refl _
  | j + 1 => by
    have := cnt_le T c j
    simp only [cntT]
    split <;> omega
theorem fst_le (T : Nat → Nat) (c : Nat) : ∀ j, fstT T c j ≤ j
  | 0 => Nat.le_refl _
  | j + 1 => by
    have := fst_le T c j
    simp only [fstT]
    split <;> omega

theorem ext_chAt (cn sn : Nat) (C : Nat → Nat → Int) (s : Int) (T : Nat → Nat) (j : Nat) (c f : Nat) : ext (nAt cn T j) (chAt cn sn C s T j) c f = chAt cn sn C s T j c f := by
  unfold ext
  by_cases h : c < nAt cn T j
  · rw [if_pos h]
  · rw [if_neg h]
    have h0 := cnt_out cn T c j (by omega)
    have hge := nAt_ge cn T j
    simp only [chAt, h0, if_true]
    unfold ext
    rw [if_neg (by omega)]

/-- One transmission more. -/
theorem trC_step (cn sn : Nat) (C : Nat → Nat → Int) (s : Int) (T : Nat → Nat) (j : Nat) (c f : Nat) (hf : f < 2) :
    trC (chAt cn sn C s T j) (nAt cn T j) (sn + j) s (T j) c f = chAt cn sn C s T (j + 1) c f := by
  have hx : ext (nAt cn T j) (chAt cn sn C s T j) = chAt cn sn C s T j := funext fun c => funext fun f => ext_chAt cn sn C s T j c f
  unfold trC
  rw [hx]
  have e0 : chAt cn sn C s T j (T j) 0 = if cntT T (T j) j = 0 then ext cn C (T j) 0 else s := by simp [chAt]
  by_cases hc : c = T j
  · subst hc
    have hcnt : cntT T (T j) (j + 1) = cntT T (T j) j + 1 := by simp [cntT]
    by_cases h0 : cntT T (T j) j = 0
    · have hfst : fstT T (T j) (j + 1) = j := by simp [fstT, h0]
      by_cases hs : ext cn C (T j) 0 = s
      · rcases (by omega : f = 0 ∨ f = 1) with rfl | rfl <;> simp [put2, chAt, h0, hcnt, hs]
      · rcases (by omega : f = 0 ∨ f = 1) with rfl | rfl <;> simp [put2, chAt, h0, hcnt, hs, hfst]
    · have h1 : ¬ (cntT T (T j) j + 1 = 1) := by omega
      rcases (by omega : f = 0 ∨ f = 1) with rfl | rfl <;> simp [put2, chAt, h0, hcnt]
  · have hcnt : cntT T c (j + 1) = cntT T c j := by simp [cntT, show ¬ T j = c from fun e => hc e.symm]
    have hfst : fstT T c (j + 1) = fstT T c j := by simp [fstT, show ¬ T j = c from fun e => hc e.symm]
    split <;> simp [put2, hc, chAt, hcnt, hfst]

theorem trM_step (sn : Nat) (M X : Nat → Nat → Int) (j : Nat) (i f : Nat) (hi : i < sn + j + 1) :
    trM (logAt sn M X) (sn + j) (X j) i f = logAt sn M X i f := by
  unfold trM logAt
  by_cases h : i < sn + j
  · rw [if_pos h]
  · obtain rfl : i = sn + j := by omega
    rw [if_neg h, if_neg (by omega), show sn + j - sn = j by omega]

theorem Air.eq {B : Nat} {w : World} {ab cn sn cn' sn' : Nat} {C M C' M' : Nat → Nat → Int} (h : Air B w ab cn sn C M) (e1 : cn = cn') (e2 : sn = sn') (hC : ∀ i, i < cn → ∀ f, f < 2 → C i f = C' i f) (hM : ∀ i, i < sn → ∀ f, f < 5 → M i f = M' i f) : Air B w ab cn' sn' C' M' := by
  subst e1
  subst e2
  obtain ⟨gc, cc, gs, sc, h⟩ := h
  exact ⟨gc, cc, gs, sc, ⟨h.blk, h.ch.eq hC, h.log.eq hM, h.ne1, h.ne2, h.ne3, h.low⟩⟩

end Go.Proofs.Qxb6623390a
