/-
  Contracts of hasPrincipals (34), ZZHasPrincipals (27), zzB1AnyMark (28), zzBytes over [][]bool (25, 29), zzB1MarksTooBig (26).
-/
import Derived.Test.Qxb6619656aSmall
import Derived.Deep.MidRow
import Derived.Deep.LoopGhost
namespace Go.Proofs.Qxb6619656a
open Go.RowKit

/-- Does one of the first k marks of a row stand? -/
def anyRow (B : Nat → Bool) : Nat → Bool
  | 0 => false
  | k + 1 => anyRow B k || B k
/-- .. of the first k rows? -/
def anyGrid (L : Nat → Nat) (B : Nat → Nat → Bool) : Nat → Bool
  | 0 => false
  | k + 1 => anyGrid L B k || anyRow (B k) (L k)

theorem anyRow_at (B : Nat → Bool) : ∀ (n j : Nat), j < n → B j = true → anyRow B n = true
  | n + 1, j, hj, hb => by
    simp only [anyRow]
    by_cases e : j = n
    · subst e; simp [hb]
    · simp [anyRow_at B n j (by omega) hb]

theorem anyGrid_at (L : Nat → Nat) (B : Nat → Nat → Bool) : ∀ (n j : Nat), j < n → anyRow (B j) (L j) = true → anyGrid L B n = true
  | n + 1, j, hj, hb => by
    simp only [anyGrid]
    by_cases e : j = n
    · subst e; simp [hb]
    · simp [anyGrid_at L B n j (by omega) hb]

/-- The cells of a 'named' whose Policy.Statements is v. -/
abbrev namedOf (v : Value) : List Value := [.string ⟨#[]⟩, .string ⟨#[]⟩, .string ⟨#[]⟩, v, .string ⟨#[]⟩, .slice none 0 0, .slice none 0 0, .slice none 0 0]
/-- The cells of a Statement whose Principal is p. -/
abbrev stmtOf (p : Option Addr) : List Value := [.string ⟨#[]⟩, .string ⟨#[]⟩, .bool false, .slice none 0 0, .pointer none, .pointer p, .slice none 0 0]

/-- A bool comes back; nothing old has turned. -/
def BoolNew (b : Bool) (w : World) (e : Ending) (w' : World) : Prop := e = .returned (.bool b) ∧ Below w.heap.size w w'

set_option maxRecDepth 100000 in
set_option maxHeartbeats 400000 in
theorem hasPrin_any (b G : Nat) (L sb : Nat → Nat) (B : Nat → Nat → Bool) (w : World) (hG : G ≤ 1048576) (hL : ∀ r, r < G → L r ≤ 1048576)
    (hrow : ∀ r, r < G → w.rangeAt b (r * 8) (namedOf (.slice (some ⟨sb r, 0, none⟩) (L r) (L r))))
    (hst : ∀ r, r < G → ∀ c, c < L r → ∃ q : Option Addr, q.isSome = B r c ∧ w.rangeAt (sb r) (c * 7) (stmtOf q)) :
    Calls Try.prog 34 #[.slice (some ⟨b, 0, none⟩) G G] w (BoolNew (anyGrid L B G) w) := by
  have HR := (show Hid _ from hrow)
  have HS := (show Hid _ from hst)
  have HL := (show Hid _ from hL)
  clear hrow hst hL
  go_enter Try.func34, Try.ntmps34
  go_wp2
  go_loopw [9] (fun i wr => ∃ k : Nat, k ≤ G ∧ i = .int .i64 k ∧ anyGrid L B k = false ∧ Below w.heap.size w wr) (fun i _ => G - (intOf i).toNat)
  case atStart => exact ⟨0, Nat.zero_le _, rfl, rfl, Below.refl _ _⟩
  case round =>
    obtain ⟨k, hk, rfl, hno, hbel⟩ := hrel
    have HNo := (show Hid _ from hno)
    clear hno
    by_cases hlt : k < G
    · have hlt' : (k : Int) < (G : Int) := by omega
      have hr := HR.out k hlt
      have hb : b < w.heap.size := World.block_lt_of_cell? _ _ (hr 0 _ rfl)
      have c0 : wr.cell? ⟨b, k * 8, none⟩ = some (.string ⟨#[]⟩) := (hbel.cell (p := ⟨b, k * 8, none⟩) hb).trans (hr 0 _ rfl)
      have c1 : wr.cell? ⟨b, k * 8 + 1, none⟩ = some (.string ⟨#[]⟩) := (hbel.cell (p := ⟨b, k * 8 + 1, none⟩) hb).trans (hr 1 _ rfl)
      have c2 : wr.cell? ⟨b, k * 8 + 2, none⟩ = some (.string ⟨#[]⟩) := (hbel.cell (p := ⟨b, k * 8 + 2, none⟩) hb).trans (hr 2 _ rfl)
      have c3 : wr.cell? ⟨b, k * 8 + 3, none⟩ = some (.slice (some ⟨sb k, 0, none⟩) (L k) (L k)) := (hbel.cell (p := ⟨b, k * 8 + 3, none⟩) hb).trans (hr 3 _ rfl)
      have c4 : wr.cell? ⟨b, k * 8 + 4, none⟩ = some (.string ⟨#[]⟩) := (hbel.cell (p := ⟨b, k * 8 + 4, none⟩) hb).trans (hr 4 _ rfl)
      have c5 : wr.cell? ⟨b, k * 8 + 5, none⟩ = some (.slice none 0 0) := (hbel.cell (p := ⟨b, k * 8 + 5, none⟩) hb).trans (hr 5 _ rfl)
      have c6 : wr.cell? ⟨b, k * 8 + 6, none⟩ = some (.slice none 0 0) := (hbel.cell (p := ⟨b, k * 8 + 6, none⟩) hb).trans (hr 6 _ rfl)
      have c7 : wr.cell? ⟨b, k * 8 + 7, none⟩ = some (.slice none 0 0) := (hbel.cell (p := ⟨b, k * 8 + 7, none⟩) hb).trans (hr 7 _ rfl)
      clear hr
      have hLk := HL.out k hlt
      go_wp2
      clear c0 c1 c2 c3 c4 c5 c6 c7
      go_loopw [18] (fun i wi => ∃ j : Nat, j ≤ L k ∧ i = .int .i64 j ∧ anyRow (B k) j = false ∧ Below w.heap.size w wi) (fun i _ => L k - (intOf i).toNat)
      case atStart => exact ⟨0, Nat.zero_le _, rfl, rfl, hbel.alloc hbel.size _⟩
      case round =>
        obtain ⟨j, hj, rfl, hnoj, hbelj⟩ := hrel
        have HNj := (show Hid _ from hnoj)
        clear hnoj
        by_cases hjl : j < L k
        · have hjl' : (j : Int) < (L k : Int) := by omega
          obtain ⟨q, hq, hr⟩ := HS.out k hlt j hjl
          have HQ := (show Hid _ from hq)
          clear hq
          have hsb : sb k < w.heap.size := World.block_lt_of_cell? _ _ (hr 0 _ rfl)
          have c0 : wr.cell? ⟨sb k, j * 7, none⟩ = some (.string ⟨#[]⟩) := (hbelj.cell (p := ⟨sb k, j * 7, none⟩) hsb).trans (hr 0 _ rfl)
          have c1 : wr.cell? ⟨sb k, j * 7 + 1, none⟩ = some (.string ⟨#[]⟩) := (hbelj.cell (p := ⟨sb k, j * 7 + 1, none⟩) hsb).trans (hr 1 _ rfl)
          have c2 : wr.cell? ⟨sb k, j * 7 + 2, none⟩ = some (.bool false) := (hbelj.cell (p := ⟨sb k, j * 7 + 2, none⟩) hsb).trans (hr 2 _ rfl)
          have c3 : wr.cell? ⟨sb k, j * 7 + 3, none⟩ = some (.slice none 0 0) := (hbelj.cell (p := ⟨sb k, j * 7 + 3, none⟩) hsb).trans (hr 3 _ rfl)
          have c4 : wr.cell? ⟨sb k, j * 7 + 4, none⟩ = some (.pointer none) := (hbelj.cell (p := ⟨sb k, j * 7 + 4, none⟩) hsb).trans (hr 4 _ rfl)
          have c5 : wr.cell? ⟨sb k, j * 7 + 5, none⟩ = some (.pointer q) := (hbelj.cell (p := ⟨sb k, j * 7 + 5, none⟩) hsb).trans (hr 5 _ rfl)
          have c6 : wr.cell? ⟨sb k, j * 7 + 6, none⟩ = some (.slice none 0 0) := (hbelj.cell (p := ⟨sb k, j * 7 + 6, none⟩) hsb).trans (hr 6 _ rfl)
          clear hr
          cases q with
          | none =>
            go_wp2
            go_roundw
            case rel => exact ⟨j + 1, by omega, by go_num, by simp only [anyRow]; rw [HNj.out, ← HQ.out]; rfl, hbelj.alloc hbelj.size _⟩
            case measure => simp [intOf]; omega
          | some q =>
            go_wp2
            go_ret
            have hB : B k j = true := HQ.out.symm
            have := anyGrid_at L B G k hlt (anyRow_at (B k) (L k) j hjl hB)
            exact ⟨by rw [this]; rfl, hbelj.alloc hbelj.size _⟩
        · obtain rfl : j = L k := by omega
          go_wp2
          go_roundw
          case rel => exact ⟨k + 1, by omega, by go_num, by simp only [anyGrid]; rw [HNo.out, HNj.out]; rfl, hbelj⟩
          case measure => simp [intOf]; omega
    · obtain rfl : k = G := by omega
      go_wp2
      go_ret
      exact ⟨by rw [HNo.out]; rfl, hbel⟩

end Go.Proofs.Qxb6619656a
