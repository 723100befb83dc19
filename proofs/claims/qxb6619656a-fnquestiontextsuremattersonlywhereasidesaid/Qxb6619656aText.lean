/-
  Contracts of (question).text (33) and ZZQuestionText (20).
-/
import Derived.Test.Qxb6619656aSmall
namespace Go.Proofs.Qxb6619656a
open Go.RowKit

abbrev kDoes : ByteArray := { data := #[68, 111, 101, 115, 32] }
abbrev kAllow : ByteArray := { data := #[32, 97, 108, 108, 111, 119, 32, 115, 111, 109, 101, 32, 114, 101, 113, 117, 101, 115, 116] }
abbrev kThat : ByteArray := { data := #[32, 116, 104, 97, 116, 32] }
abbrev kNot : ByteArray := { data := #[32, 100, 111, 101, 115, 32, 110, 111, 116] }
abbrev kWhat : ByteArray := { data := #[44, 32, 119, 104, 97, 116, 101, 118, 101, 114, 32, 116, 104, 101, 32, 101, 108, 101, 109, 101, 110, 116, 115, 32, 115, 101, 116, 32, 97, 115, 105, 100, 101, 32, 100, 101, 99, 105, 100, 101] }
abbrev kSome : ByteArray := { data := #[44, 32, 102, 111, 114, 32, 115, 111, 109, 101, 32, 119, 97, 121, 32, 116, 104, 97, 116, 32, 116, 104, 101, 32, 101, 108, 101, 109, 101, 110, 116, 115, 32, 115, 101, 116, 32, 97, 115, 105, 100, 101, 32, 100, 101, 99, 105, 100, 101] }
abbrev kQ : ByteArray := { data := #[63] }

/-- How the question begins. -/
def qHead (a : ByteArray) : ByteArray := kDoes ++ a ++ kAllow
/-- The refused policy's clause. -/
def qRef (S : Nat → ByteArray) (rf : Int) (t : ByteArray) : ByteArray := if rf < 0 then t else t ++ (kThat ++ S rf.toNat ++ kNot)
/-- The clause on what is set aside, and the question mark. -/
def qFin (sure aside : Bool) (t : ByteArray) : ByteArray :=
  match aside, sure with
  | true, true => t ++ kWhat ++ kQ
  | true, false => t ++ kSome ++ kQ
  | false, _ => t ++ kQ
def qText (S : Nat → ByteArray) (al : Nat) (rf : Int) (sure aside : Bool) : ByteArray := qFin sure aside (qRef S rf (qHead (S al)))

/-- A string comes back; nothing old has turned. -/
def StrRet (s : ByteArray) (w : World) (e : Ending) (w' : World) : Prop := e = .returned (.string s) ∧ Below w.heap.size w w'

set_option maxHeartbeats 400000 in
theorem text_ref (b n al rf : Nat) (S : Nat → ByteArray) (sure aside : Bool) (w : World) (_hn : n ≤ 1048576) (hal : al < n) (hrf : rf < n)
    (hc : ∀ i, i < n → w.cell? ⟨b, i * 8, none⟩ = some (.string (S i))) (hs : ∀ i, i < n → (S i).size ≤ 1048576) :
    Calls Try.prog 33 #[.agg #[.int .i64 al, .int .i64 rf, .pointer none, .bool sure], .slice (some ⟨b, 0, none⟩) n n, .bool aside] w (StrRet (qText S al rf sure aside) w) := by
  have hb : b < w.heap.size := World.block_lt_of_cell? _ _ (hc al hal)
  have c1 := hc al hal
  have c2 := hc rf hrf
  have s1 := hs al hal
  have s2 := hs rf hrf
  clear hs hc
  have hal' : (al : Int) < (n : Int) := by omega
  have hrf' : (rf : Int) < (n : Int) := by omega
  have hq : qText S al rf sure aside = qFin sure aside (qHead (S al) ++ (kThat ++ S rf ++ kNot)) := by unfold qText qRef; rw [if_neg (by omega), Int.toNat_natCast]
  rw [hq]
  clear hq
  cases aside <;> cases sure
  all_goals
    go_enter Try.func33, Try.ntmps33
    go_wp2
    go_ret
    exact ⟨rfl, (Below.refl _ _).alloc (Nat.le_refl _) _⟩

set_option maxHeartbeats 400000 in
theorem text_neg (b n al : Nat) (rf : Int) (S : Nat → ByteArray) (sure aside : Bool) (w : World) (_hn : n ≤ 1048576) (hal : al < n) (hrf : rf < 0)
    (hc : ∀ i, i < n → w.cell? ⟨b, i * 8, none⟩ = some (.string (S i))) (hs : ∀ i, i < n → (S i).size ≤ 1048576) :
    Calls Try.prog 33 #[.agg #[.int .i64 al, .int .i64 rf, .pointer none, .bool sure], .slice (some ⟨b, 0, none⟩) n n, .bool aside] w (StrRet (qText S al rf sure aside) w) := by
  have hb : b < w.heap.size := World.block_lt_of_cell? _ _ (hc al hal)
  have c1 := hc al hal
  have s1 := hs al hal
  clear hs hc
  have hal' : (al : Int) < (n : Int) := by omega
  have hq : qText S al rf sure aside = qFin sure aside (qHead (S al)) := by simp [qText, qRef, hrf]
  rw [hq]
  clear hq
  cases aside <;> cases sure
  all_goals
    go_enter Try.func33, Try.ntmps33
    go_wp2
    go_ret
    exact ⟨rfl, (Below.refl _ _).alloc (Nat.le_refl _) _⟩

theorem text_any (b n al : Nat) (rf : Int) (S : Nat → ByteArray) (sure aside : Bool) (w : World) (hn : n ≤ 1048576) (hal : al < n) (hrf : rf < n)
    (hc : ∀ i, i < n → w.cell? ⟨b, i * 8, none⟩ = some (.string (S i))) (hs : ∀ i, i < n → (S i).size ≤ 1048576) :
    Calls Try.prog 33 #[.agg #[.int .i64 al, .int .i64 rf, .pointer none, .bool sure], .slice (some ⟨b, 0, none⟩) n n, .bool aside] w (StrRet (qText S al rf sure aside) w) := by
  by_cases h : rf < 0
  · exact text_neg b n al rf S sure aside w hn hal h hc hs
  · obtain ⟨r, rfl⟩ := Int.eq_ofNat_of_zero_le (show 0 ≤ rf by omega)
    exact text_ref b n al r S sure aside w hn hal (by omega) hc hs

theorem Try.info61 : (Try.prog.info? 61).map (fun i => (i.zero, i.size, i.bytes)) = some (some (.agg #[.string ⟨#[]⟩, .string ⟨#[]⟩, .string ⟨#[]⟩, .slice none 0 0, .string ⟨#[]⟩, .slice none 0 0, .slice none 0 0, .slice none 0 0]), 8, 160) := by kernel_rfl

set_option maxHeartbeats 400000 in
theorem qtext_any (ga : Option Addr) (gb go n c al : Nat) (rf : Int) (S : Nat → ByteArray) (sure aside : Bool) (w : World) (hn : n ≤ 1048576) (hal : al < n) (hrf : rf < n)
    (hga : 0 < n → ga = some ⟨gb, go, none⟩) (hc : ∀ i, i < n → w.cell? ⟨gb, go + i, none⟩ = some (.string (S i))) (hs : ∀ i, i < n → (S i).size ≤ 1048576) :
    Calls Try.prog 20 #[.int .i64 al, .int .i64 rf, .bool sure, .slice ga n c, .bool aside] w (StrRet (qText S al rf sure aside) w) := by
  obtain ⟨i0, hi, hz0, hz1, hz2⟩ := info_parts Try.info61
  have hgb : gb < w.heap.size := World.block_lt_of_cell? _ _ (hc al hal)
  obtain rfl := hga (by omega)
  clear hga
  go_enter Try.func20, Try.ntmps20
  go_wp2_with (at_make; go_must (refine wpList_make_full _ rfl _ _ 52 rfl w.heap.size 61 i0 _ 8 Try.underlying52 hi hz0 hz1 _ _ _ _ n rfl rfl rfl rfl (by rw [hz2]; omega) (by unfold maxLen; omega) (Nat.le_refl _) ?_); intro w1 hown1 hg1)
  have hb1 : Below w.heap.size w w1 := (Below.refl _ _).grown hg1 (Nat.le_refl _) (fun _ h => by cases h)
  clear hg1
  go_loopw [18] (fun i wr => ∃ (k : Nat) (xs : List Value), k ≤ n ∧ i = .int .i64 k ∧ wr.ownsRow w.heap.size 61 8 (.slice (some ⟨w.heap.size, 0, none⟩) n n) n xs ∧ (∀ j, j < k → xs[j * 8]? = some (.string (S j))) ∧ Below w.heap.size w wr) (fun i _ => n - (intOf i).toNat)
  case atStart => exact ⟨0, _, Nat.zero_le _, rfl, hown1, fun j hj => absurd hj (Nat.not_lt_zero _), hb1⟩
  case round =>
    obtain ⟨k, xs, hk, rfl, hown, hxs, hbel⟩ := hrel
    clear hown1 hb1
    have HX : Hid (∀ j, j < k → xs[j * 8]? = some (.string (S j))) := hxs
    clear hxs
    by_cases hlt : k < n
    · have hlt' : (k : Int) < (n : Int) := by omega
      have hcell : wr.cell? ⟨gb, go + k, none⟩ = some (.string (S k)) := (hbel.cell (p := ⟨gb, go + k, none⟩) hgb).trans (hc k hlt)
      have hlen := hown.1
      obtain ⟨v, hv⟩ : ∃ v, xs[k * 8]? = some v := ⟨_, List.getElem?_eq_getElem (by omega)⟩
      have hst : wr.cell? ⟨w.heap.size, k * 8, none⟩ = some v := (hown.cellAt (k * 8) (by omega)).trans hv
      have hfz : wr.frozen? ⟨w.heap.size, k * 8, none⟩ = false := hown.frozenAt (k * 8)
      have hst2 := hown.stored (k * 8) (.string (S k))
      have HS := (show Hid _ from hst2)
      clear hst2 hc hlen
      go_wp2
      go_roundw
      case rel =>
        refine ⟨k + 1, xs.set (k * 8) (.string (S k)), by omega, by go_num, HS.out.1, fun j hj => ?_, hbel.setCell (Nat.le_refl _) _⟩
        by_cases e : j = k
        · subst e
          rw [List.getElem?_set_self (List.getElem?_eq_some_iff.1 hv).1]
        · rw [List.getElem?_set_ne (by omega)]
          exact HX.out j (by omega)
      case measure => simp [intOf]; omega
    · obtain rfl : k = n := by omega
      have hq := fun w' (h : ∀ a, w'.cell? a = wr.cell? a) => text_any w.heap.size k al rf S sure aside w' hn hal hrf (fun i hi => by rw [h]; exact (hown.cellAt (i * 8) (by omega)).trans (HX.out i hi)) hs
      have HQ := (show Hid _ from hq)
      clear hq hc
      go_wp2_with (go_at_call 33; go_must (refine (HQ.out _ (fun _ => rfl)).mono ?_); rintro e w' ⟨rfl, hb2⟩)
      go_ret
      exact ⟨rfl, hbel.trans (hb2.mono hbel.size)⟩

end Go.Proofs.Qxb6619656a
