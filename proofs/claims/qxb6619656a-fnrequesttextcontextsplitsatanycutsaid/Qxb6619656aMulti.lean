/-
  Contract of zzB1SameMultiset (15): two slices with the same strings the same number of times.
-/
import Derived.Test.Qxb6619656aMaps
import Derived.BigQuiet
import Derived.Deep.QuietTactic
namespace Go.Proofs.Qxb6619656a
open Go.RowKit

/-- How often b stands among the first k. -/
def cntF (S : Nat → ByteArray) : Nat → ByteArray → Int
  | 0, _ => 0
  | k + 1, b => cntF S k b + if b = S k then 1 else 0

theorem cntF_bd (S : Nat → ByteArray) : ∀ k b, 0 ≤ cntF S k b ∧ cntF S k b ≤ k
  | 0, _ => by simp [cntF]
  | k + 1, b => by
    have := cntF_bd S k b
    simp only [cntF]
    split <;> omega

/-- A []string as the walks are told of it. -/
structure SlStr (w : World) (a : Option Addr) (n : Nat) (b o : Nat) (S : Nat → ByteArray) : Prop where
  addr : 0 < n → a = some ⟨b, o, none⟩
  cell : ∀ i, i < n → w.cell? ⟨b, o + i, none⟩ = some (.string (S i))
  size : ∀ i, i < n → (S i).size ≤ maxLen

theorem SlStr.later {w w' : World} {a : Option Addr} {n b o B : Nat} {S : Nat → ByteArray} (h : SlStr w a n b o S) (hb : Below B w w') (hB : w.heap.size ≤ B) : SlStr w' a n b o S :=
  ⟨h.addr, fun i hi => (hb.cell (p := ⟨b, o + i, none⟩) (Nat.lt_of_lt_of_le (World.block_lt_of_cell? _ _ (h.cell i hi)) hB)).trans (h.cell i hi), h.size⟩

/-- A bool comes back; nothing old has turned. -/
def TrueB (w : World) (e : Ending) (w' : World) : Prop := e = .returned (.bool true) ∧ Below w.heap.size w w'

theorem step_add {S : Nat → ByteArray} {k : Nat} : (fun t => if t = S k then cntF S k (S k) + 1 else cntF S k t) = cntF S (k + 1) := by
  funext t
  simp only [cntF]
  by_cases e : t = S k
  · subst e; simp
  · simp [e]

theorem step_sub {S T : Nat → ByteArray} {n k : Nat} : (fun t => if t = T k then cntF S n (T k) - cntF T k (T k) - 1 else cntF S n t - cntF T k t) = fun t => cntF S n t - cntF T (k + 1) t := by
  funext t
  simp only [cntF]
  by_cases e : t = T k
  · subst e; simp; omega
  · simp [e]

set_option maxRecDepth 100000 in
set_option maxHeartbeats 400000 in
theorem multi_true (ga ha : Option Addr) (n c c' gb go hb ho : Nat) (S T : Nat → ByteArray) (w : World) (hn : n ≤ 4398046511104) (hS : SlStr w ga n gb go S) (hT : SlStr w ha n hb ho T) (heq : ∀ b, cntF S n b = cntF T n b) :
    Calls Try.prog 15 #[.slice ga n c, .slice ha n c'] w (TrueB w) := by
  have HS := (show Hid _ from hS)
  have HT := (show Hid _ from hT)
  have HE := (show Hid _ from heq)
  clear hS hT heq
  have hmm := @run_makeMap Try.prog
  go_enter Try.func15, Try.ntmps15
  go_wp2
  clear hmm
  have HM0 : Hid (IntMap (w.alloc (.map #[] 0)) w.heap.size 0 (cntF S 0)) := IntMap.made w
  go_loopw [6] (fun i wr => ∃ k : Nat, k ≤ n ∧ i = .int .i64 k ∧ IntMap wr w.heap.size k (cntF S k) ∧ Below w.heap.size w wr) (fun i _ => n - (intOf i).toNat)
  case atStart => exact ⟨0, Nat.zero_le _, rfl, HM0.out, (Below.refl _ _).alloc (Nat.le_refl _) _⟩
  case round =>
    obtain ⟨k, hk, rfl, hM, hbel⟩ := hrel
    clear HM0
    by_cases hlt : k < n
    · have hlt' : (k : Int) < (n : Int) := by omega
      obtain rfl := HS.out.addr (by omega)
      have c0 := (HS.out.later hbel (Nat.le_refl _)).cell k hlt
      have sz := HS.out.size k hlt
      have bd := cntF_bd S k (S k)
      have hlook := hM.drew.look sz
      obtain ⟨w1, hupd, hM1, hg1⟩ := hM.drew.store (x := cntF S k (S k) + 1) (by unfold maxLen; omega) sz (WalkArith.wf_i64 (by omega))
      have HM1 := (show Hid _ from hM1)
      have HG1 := (show Hid _ from hg1)
      have HM := (show Hid _ from hM)
      clear hM1 hg1 hM
      have HST : Hid (cntF S (k + 1) = fun t => if t = S k then cntF S k (S k) + 1 else cntF S k t) := step_add.symm
      generalize cntF S k (S k) = cv at *
      go_wp2
      go_region
      go_wp2
      go_roundw
      case rel => exact ⟨k + 1, by omega, by go_num, by rw [HST.out]; exact HM1.out, hbel.drew.grown HG1.out hbel.size (fun x hx => by cases hx; exact Nat.le_refl _)⟩
      case measure => simp [intOf]; omega
    · obtain rfl : k = n := by omega
      go_wp2
      have HM0 : Hid (IntMap wr w.heap.size k (fun t => cntF S k t - cntF T 0 t)) := by
        show IntMap _ _ _ _
        have : (fun t => cntF S k t - cntF T 0 t) = cntF S k := by funext t; simp [cntF]
        rw [this]; exact hM
      clear hM
      go_loopw [7] (fun i wr => ∃ j : Nat, j ≤ k ∧ i = .int .i64 j ∧ IntMap wr w.heap.size (k + j) (fun t => cntF S k t - cntF T j t) ∧ Below w.heap.size w wr) (fun i _ => k - (intOf i).toNat)
      case atStart => exact ⟨0, Nat.zero_le _, rfl, HM0.out, hbel⟩
      case round =>
        obtain ⟨j, hj, rfl, hM, hbelj⟩ := hrel
        clear HM0
        by_cases hjl : j < k
        · have hjl' : (j : Int) < (k : Int) := by omega
          obtain rfl := HT.out.addr (by omega)
          have c0 := (HT.out.later hbelj (Nat.le_refl _)).cell j hjl
          have sz := HT.out.size j hjl
          have bd := cntF_bd S k (T j)
          have bd2 := cntF_bd T j (T j)
          have hlook := hM.drew.look sz
          obtain ⟨w1, hupd, hM1, hg1⟩ := hM.drew.store (x := cntF S k (T j) - cntF T j (T j) - 1) (by unfold maxLen; omega) sz (WalkArith.wf_i64 (by omega))
          have HM1 := (show Hid _ from hM1)
          have HG1 := (show Hid _ from hg1)
          have HM := (show Hid _ from hM)
          clear hM1 hg1 hM
          have HST : Hid ((fun t => cntF S k t - cntF T (j + 1) t) = fun t => if t = T j then cntF S k (T j) - cntF T j (T j) - 1 else cntF S k t - cntF T j t) := step_sub.symm
          have bd3 : -4398046511104 ≤ cntF S k (T j) - cntF T j (T j) := by omega
          have bd4 : cntF S k (T j) - cntF T j (T j) ≤ 4398046511104 := by omega
          clear bd bd2
          generalize cntF S k (T j) - cntF T j (T j) = cv at *
          go_wp2
          go_region
          go_wp2
          go_roundw
          case rel => exact ⟨j + 1, by omega, by go_num, by rw [HST.out]; exact HM1.out, hbelj.drew.grown HG1.out hbelj.size (fun x hx => by cases hx; exact Nat.le_refl _)⟩
          case measure => simp [intOf]; omega
        · obtain rfl : j = k := by omega
          have HZ : Hid (IntMap wr w.heap.size (j + j) (fun _ => 0)) := by
            show IntMap _ _ _ _
            have : (fun t => cntF S j t - cntF T j t) = fun _ => 0 := by funext t; rw [HE.out t]; omega
            rw [← this]; exact hM
          clear hM
          go_wp2
          go_loop [8] (fun i => ∃ m : Nat, m ≤ j ∧ i = .int .i64 m) (fun i => j - (intOf i).toNat)
          case atStart => exact ⟨0, Nat.zero_le _, rfl⟩
          case round =>
            obtain ⟨m, hm, rfl⟩ := hrel
            by_cases hml : m < j
            · have hml' : (m : Int) < (j : Int) := by omega
              obtain rfl := HS.out.addr (by omega)
              have c0 := (HS.out.later hbelj (Nat.le_refl _)).cell m hml
              have hlook := HZ.out.look (HS.out.size m hml)
              go_wp2
              go_round
              case rel => exact ⟨m + 1, by omega, by go_num⟩
              case measure => simp [intOf]; omega
            · obtain rfl : m = j := by omega
              go_wp2
              go_loop [9] (fun i => ∃ q : Nat, q ≤ m ∧ i = .int .i64 q) (fun i => m - (intOf i).toNat)
              case atStart => exact ⟨0, Nat.zero_le _, rfl⟩
              case round =>
                obtain ⟨q, hq, rfl⟩ := hrel
                by_cases hql : q < m
                · have hql' : (q : Int) < (m : Int) := by omega
                  obtain rfl := HT.out.addr (by omega)
                  have c0 := (HT.out.later hbelj (Nat.le_refl _)).cell q hql
                  have hlook := HZ.out.look (HT.out.size q hql)
                  go_wp2
                  go_round
                  case rel => exact ⟨q + 1, by omega, by go_num⟩
                  case measure => simp [intOf]; omega
                · go_wp2
                  go_ret
                  exact ⟨rfl, hbelj⟩

end Go.Proofs.Qxb6619656a
