/-
  The walk of FnQuestionTextRefusedAddsItsClause (5).
-/
import Derived.Test.Qxb6619656aPre
import Derived.Test.Qxb6619656aOpen
import Derived.Laws.CopyOwn
import Derived.Deep.OwnRows
import Derived.Deep.QuietTactic
import Derived.BigQuiet
namespace Go.Proofs.Qxb6619656a
open Go.RowKit

theorem Try.info9 : (Try.prog.info? 9).map (fun i => (i.zero, i.size, i.bytes)) = some (some (.string ⟨#[]⟩), 1, 16) := by kernel_rfl
theorem Try.size9 : (Try.prog.info? 9).map (·.size) = some 1 := by kernel_rfl

/-- 'true' comes back; nothing old has turned. -/
def TrueRet (w : World) (e : Ending) (w' : World) : Prop := e = .returned (.bool true) ∧ Below w.heap.size w w'

theorem own_full {w : World} {B n g : Nat} {e : TypeId} {xs : List Value} (h : w.ownsRow B e 1 (.slice (some ⟨g, 0, none⟩) n n) n xs) : w.heap[g]? = some (.cells xs.toArray e (0, 0)) := by
  rcases h.2 with ⟨h', _⟩ | ⟨g', cap', cur, h', _, hg, _, _, hcs, htake⟩
  · simp at h'
  · simp only [Value.slice.injEq, Option.some.injEq, Addr.mk.injEq, and_true, true_and] at h'
    obtain ⟨rfl, rfl⟩ := h'
    rw [hg, ← htake, List.take_of_length_le (by rw [Array.length_toList, hcs]; exact Nat.le_refl _), Array.toArray_toList]

def strCells (S : Nat → ByteArray) (n : Nat) : List Value := (List.range n).map (fun i => Value.string (S i))
theorem strCells_len (S : Nat → ByteArray) (n : Nat) : (strCells S n).length = n := by simp [strCells]
theorem strCells_at (S : Nat → ByteArray) (n j : Nat) (v : Value) (h : (strCells S n)[j]? = some v) : j < n ∧ v = .string (S j) := by
  have hj := (List.getElem?_eq_some_iff.1 h).1
  rw [strCells_len] at hj
  refine ⟨hj, ?_⟩
  simp [strCells, hj] at h
  exact h.symm
theorem strCells_get (S : Nat → ByteArray) (n j : Nat) (h : j < n) : (strCells S n)[j]? = some (.string (S j)) := by simp [strCells, h]
theorem strCells_one (S : Nat → ByteArray) (n : Nat) : ∀ v ∈ strCells S n, v.oneCell' = true := by
  intro v hv
  obtain ⟨_, _, rfl⟩ := List.mem_map.1 hv
  rfl

/-- 'copy(zzc, names)': zzc is made as long as names is. -/
theorem copy_strs {B g n c : Nat} {w w1 : World} {ad : Addr} {S : Nat → ByteArray} {xs : List Value} (hown : w1.ownsRow B 9 1 (.slice (some ⟨g, 0, none⟩) n n) n xs) (hb : Below B w w1) (hB : B ≤ g)
    (hc : ∀ i, i < n → w1.cell? (ad.add i) = some (.string (S i))) :
    ∃ w2, (Builtin.copy_ #[22, 22] 3 #[.slice (some ⟨g, 0, none⟩) n n, .slice (some ad) n c]).run Try.prog w1 = .ok (.int .i64 n) w2 ∧ (∀ i, i < n → w2.cell? ⟨g, i, none⟩ = some (.string (S i))) ∧ Below B w w2 ∧ w2.heap.size = w1.heap.size := by
  have hg := own_full hown
  have hl := hown.1
  have hr := run_copy_row (P := Try.prog) w1 22 22 3 9 g 0 n n ad n c xs.toArray 9 (strCells S n) Try.underlying22 Try.size9 hg (by rw [strCells_len]; simp) (fun j v hv => by
    obtain ⟨hj, rfl⟩ := strCells_at S n j v hv
    exact hc j hj) (by rw [strCells_len]; simp; omega) (strCells_one S n)
  rw [strCells_len] at hr
  refine ⟨_, hr, fun i hi => ?_, below_setRow hb hB _, by simp [World.setRow]⟩
  have hh := setRow_heap w1 g xs.toArray (xs.toArray.toList.take 0 ++ strCells S n ++ xs.toArray.toList.drop (0 + n)).toArray 9 (0, 0) hg
  rw [cell_of_row _ g i _ 9 (0, 0) hh]
  simp only [List.take_zero, List.nil_append, List.getElem?_toArray]
  rw [List.getElem?_append_left (by rw [strCells_len]; exact hi)]
  exact strCells_get S n i hi

set_option maxRecDepth 100000 in
set_option maxHeartbeats 400000 in
theorem law5_mid (gb go n c al rf : Nat) (neg : Int) (S : Nat → ByteArray) (sure aside : Bool) (w : World) (hn : n ≤ 1048576) (hal : al < n) (hrf : rf < n) (hneg : neg < 0)
    (hc : ∀ i, i < n → w.cell? ⟨gb, go + i, none⟩ = some (.string (S i))) (hs : ∀ i, i < n → (S i).size ≤ 1048576) :
    Calls Try.prog 5 #[.slice (some ⟨gb, go, none⟩) n c, .int .i64 al, .int .i64 rf, .int .i64 neg, .bool sure, .bool aside] w (TrueRet w) := by
  obtain ⟨i0, hi, hz0, hz1, hz2⟩ := info_parts Try.info9
  have hgb : gb < w.heap.size := World.block_lt_of_cell? _ _ (hc al hal)
  have hal' : (al : Int) < (n : Int) := by omega
  have hrf' : (rf : Int) < (n : Int) := by omega
  have d1 : ¬ ((al : Int) < 0) := by omega
  have d2 : ¬ (n ≤ al) := by omega
  have d3 : ¬ ((rf : Int) < 0) := by omega
  have d4 : ¬ (n ≤ rf) := by omega
  have d5 : ¬ (0 ≤ neg) := by omega
  have hnn := fun (w : World) (ca : Nat) => run_neq_slice_nil_any (P := Try.prog) w 22 9 (some ⟨gb, go, none⟩) n ca 0 0 Try.underlying22
  have hB := fun (w' : World) (h : w' = w) => bytesNames18 (some ⟨gb, go, none⟩) gb go n c S al rf neg sure aside w' (by unfold maxLen; omega) (fun _ => rfl) (h ▸ hc) (fun i hi => by have := hs i hi; unfold maxLen; omega)
  have HB := (show Hid _ from hB)
  clear hB
  have hN := fun (w' : World) (h : w' = w) => namesTooBig_any (some ⟨gb, go, none⟩) gb go n c S w' (by unfold maxLen; omega) (fun _ => rfl) (h ▸ hc) (fun i hi => by have := hs i hi; unfold maxLen; omega)
  have HN := (show Hid _ from hN)
  clear hN
  have HC : Hid (∀ i, i < n → w.cell? ⟨gb, go + i, none⟩ = some (.string (S i))) := hc
  have HS : Hid (∀ i, i < n → (S i).size ≤ 1048576) := hs
  clear hc hs
  go_enter Try.func5, Try.ntmps5
  go_wp2_with fail
  refine (HB.out _ rfl).mono ?_
  rintro e w' ⟨b, rfl, _, rfl⟩
  cases b
  · go_wp2
    go_ret
    exact ⟨rfl, Below.refl _ _⟩
  go_wp2_with fail
  refine (HN.out _ rfl).mono ?_
  rintro e w' ⟨b, rfl, _, rfl⟩
  cases b
  rotate_left
  · go_wp2
    go_ret
    exact ⟨rfl, Below.refl _ _⟩
  clear HB HN
  go_wp2_with (at_make; go_must (refine wpList_make_full _ rfl _ _ 22 rfl w.heap.size 9 i0 _ 1 Try.underlying22 hi hz0 hz1 _ _ _ _ n rfl rfl rfl rfl (by rw [hz2]; omega) (by unfold maxLen; omega) (Nat.le_refl _) ?_); intro w1 hown1 hg1; obtain ⟨w2, hrun2, hc2, hb2, hs2⟩ := copy_strs (w := w) (c := c) (ad := ⟨gb, go, none⟩) (S := S) hown1 ((Below.refl _ _).grown hg1 (Nat.le_refl _) (fun _ h => by cases h)) (Nat.le_refl _) (fun i hi => by rw [Addr.add_lit]; exact hg1.cell (HC.out i hi) (by simp)); have HC2 := (show Hid _ from hc2); clear hc2)
  have HB2 : Hid (Below w.heap.size w w2) := hb2
  have hB2 : w.heap.size < w2.heap.size := World.block_lt_of_cell? _ _ (HC2.out al hal)
  have hsal := HS.out al hal
  have hsrf := HS.out rf hrf
  obtain ⟨T, hT⟩ : ∃ T, T = qTail sure aside := ⟨_, rfl⟩
  have hTs : T.size ≤ 50 := by rw [hT]; exact size_qTail _ _
  have hPs := size_qHead (S al)
  obtain ⟨A, hA⟩ : ∃ A, A = qHead (S al) ++ T := ⟨_, rfl⟩
  have hAs : A.size = (qHead (S al)).size + T.size := by rw [hA, size_app]
  obtain ⟨G, hG⟩ : ∃ G, G = qHead (S al) ++ kThat ++ S rf ++ kNot ++ T := ⟨_, rfl⟩
  have H1 : Hid (∀ w', Below w2.heap.size w2 w' → Calls Try.prog 20 #[.int .i64 al, .int .i64 (-1), .bool sure, .slice (some ⟨w.heap.size, 0, none⟩) n n, .bool aside] w' (StrRet A w')) := fun w' h => by
    have := qtext_any (some ⟨w.heap.size, 0, none⟩) w.heap.size 0 n n al (-1) S sure aside w' hn hal (by omega) (fun _ => rfl) (fun i hi => by rw [Nat.zero_add, h.cell (p := ⟨w.heap.size, i, none⟩) hB2]; exact HC2.out i hi) HS.out
    rw [qText_neg S al (-1) (by omega), ← hT, ← hA] at this
    exact this
  have H2 : Hid (∀ w', Below w2.heap.size w2 w' → Calls Try.prog 20 #[.int .i64 al, .int .i64 neg, .bool sure, .slice (some ⟨w.heap.size, 0, none⟩) n n, .bool aside] w' (StrRet A w')) := fun w' h => by
    have := qtext_any (some ⟨w.heap.size, 0, none⟩) w.heap.size 0 n n al neg S sure aside w' hn hal (by omega) (fun _ => rfl) (fun i hi => by rw [Nat.zero_add, h.cell (p := ⟨w.heap.size, i, none⟩) hB2]; exact HC2.out i hi) HS.out
    rw [qText_neg S al neg hneg, ← hT, ← hA] at this
    exact this
  have H3 : Hid (∀ w', Below w2.heap.size w2 w' → Calls Try.prog 20 #[.int .i64 al, .int .i64 rf, .bool sure, .slice (some ⟨w.heap.size, 0, none⟩) n n, .bool aside] w' (StrRet G w')) := fun w' h => by
    have := qtext_any (some ⟨w.heap.size, 0, none⟩) w.heap.size 0 n n al rf S sure aside w' hn hal (by omega) (fun _ => rfl) (fun i hi => by rw [Nat.zero_add, h.cell (p := ⟨w.heap.size, i, none⟩) hB2]; exact HC2.out i hi) HS.out
    rw [qText_pos S al rf, ← hT, ← hG] at this
    exact this
  have H4 : Hid (∀ w', Calls Try.prog 21 #[.string A, .string (qHead (S al))] w' (BoolIs true w')) := fun w' => by
    have := prefix_app (qHead (S al)) T w' (by rw [← hA]; omega)
    rw [← hA] at this
    exact this
  have HE : Hid (A.extract (qHead (S al)).size A.size = T) := by
    show _ = _
    rw [hA]; exact extract_suf _ _
  have HG : Hid (G = qHead (S al) ++ kThat ++ S rf ++ kNot ++ T) := hG
  have hle : (qHead (S al)).size ≤ A.size := by omega
  have hAm : A.size ≤ 1048700 := by omega
  have hPm : (qHead (S al)).size ≤ 1048600 := by omega
  have HT2 : Hid (∀ w', Below w2.heap.size w2 w' → w'.cell? ⟨w.heap.size, al, none⟩ = some (.string (S al)) ∧ w'.cell? ⟨w.heap.size, rf, none⟩ = some (.string (S rf))) := fun w' h =>
    ⟨by rw [h.cell (p := ⟨w.heap.size, al, none⟩) hB2]; exact HC2.out al hal, by rw [h.cell (p := ⟨w.heap.size, rf, none⟩) hB2]; exact HC2.out rf hrf⟩
  clear hT hA hG hAs hTs hPs hrun2 hown1 hg1 hb2 HC2 HS HC hnn hi hz0 hz1 hz2 hs2
  refine (H1.out _ (Below.refl _ _)).mono ?_
  rintro e w3 ⟨rfl, hb3⟩
  go_wp2_with fail
  refine (H2.out _ hb3).mono ?_
  rintro e w4 ⟨rfl, hb4'⟩
  have hb4 := hb3.trans (hb4'.mono hb3.size)
  clear hb4' hb3
  go_wp2_with fail
  refine (H3.out _ hb4).mono ?_
  rintro e w5 ⟨rfl, hb5'⟩
  have hb5 := hb4.trans (hb5'.mono hb4.size)
  clear hb5' hb4 H1 H2 H3
  obtain ⟨hcl, hcr⟩ := HT2.out _ hb5
  clear HT2
  go_wp2_with fail
  have eP : kDoes ++ S al ++ kAllow = qHead (S al) := rfl
  rw [eP]
  clear eP
  generalize qHead (S al) = P at *
  refine (H4.out _).mono ?_
  rintro e w6 ⟨rfl, rfl⟩
  clear H4
  have hle' : (P.size : Int) ≤ (A.size : Int) := by omega
  go_wp2_with fail
  go_quiet (fail)
  go_wp2
  go_ret
  refine ⟨congrArg (fun b => Ending.returned (.bool b)) ?_, below_drewN (HB2.out.trans (hb5.mono HB2.out.size)) _⟩
  show (G.toList == (P ++ kThat ++ S rf ++ kNot ++ A.extract P.size A.size).toList) = true
  rw [HE.out, HG.out, beq_self_eq_true]

set_option maxRecDepth 100000 in
set_option maxHeartbeats 400000 in
theorem law5_out (ga : Option Addr) (gb go n c : Nat) (al rf neg : Int) (S : Nat → ByteArray) (sure aside : Bool) (w : World) (hn : n ≤ maxLen) (hga : 0 < n → ga = some ⟨gb, go, none⟩)
    (hc : ∀ i, i < n → w.cell? ⟨gb, go + i, none⟩ = some (.string (S i))) (hs : ∀ i, i < n → (S i).size ≤ maxLen)
    (hout : (n ≤ 1048576 ∧ ∀ i, i < n → (S i).size ≤ 1048576) → al < 0 ∨ (0 ≤ al ∧ n ≤ al) ∨ (0 ≤ al ∧ al < n ∧ rf < 0) ∨ (0 ≤ al ∧ al < n ∧ 0 ≤ rf ∧ n ≤ rf) ∨ (0 ≤ al ∧ al < n ∧ 0 ≤ rf ∧ rf < n ∧ 0 ≤ neg)) :
    Calls Try.prog 5 #[.slice ga n c, .int .i64 al, .int .i64 rf, .int .i64 neg, .bool sure, .bool aside] w (TrueRet w) := by
  have HB : Hid _ := (show Hid _ from fun (w' : World) (h : w' = w) => bytesNames18 ga gb go n c S al rf neg sure aside w' hn hga (h ▸ hc) hs)
  have HN : Hid _ := (show Hid _ from fun (w' : World) (h : w' = w) => namesTooBig_any ga gb go n c S w' hn hga (h ▸ hc) hs)
  have HO := (show Hid _ from hout)
  clear hout hc hs hga
  go_enter Try.func5, Try.ntmps5
  go_wp2_with fail
  refine (HB.out _ rfl).mono ?_
  rintro e w' ⟨b, rfl, hb, rfl⟩
  cases b
  · clear hb
    go_wp2
    go_ret
    exact ⟨rfl, Below.refl _ _⟩
  have hcases := HO.out (hb rfl)
  have HCA := (show Hid _ from hcases)
  clear hb hcases
  go_wp2_with fail
  refine (HN.out _ rfl).mono ?_
  rintro e w' ⟨b, rfl, _, rfl⟩
  cases b
  rotate_left
  · go_wp2
    go_ret
    exact ⟨rfl, Below.refl _ _⟩
  rcases HCA.out with h1 | ⟨h1, h2⟩ | ⟨h1, h2, h3⟩ | ⟨h1, h2, h3, h4⟩ | ⟨h1, h2, h3, h4, h5⟩
  all_goals
    clear HB HN HO HCA
    go_wp2
    go_ret
    exact ⟨rfl, Below.refl _ _⟩

/-- THE WALK, FOR EVERY INPUT. -/
theorem law5_any (ga : Option Addr) (gb go n c : Nat) (al rf neg : Int) (S : Nat → ByteArray) (sure aside : Bool) (w : World) (hn : n ≤ maxLen) (hga : 0 < n → ga = some ⟨gb, go, none⟩)
    (hc : ∀ i, i < n → w.cell? ⟨gb, go + i, none⟩ = some (.string (S i))) (hs : ∀ i, i < n → (S i).size ≤ maxLen) :
    Calls Try.prog 5 #[.slice ga n c, .int .i64 al, .int .i64 rf, .int .i64 neg, .bool sure, .bool aside] w (TrueRet w) := by
  by_cases hall : (n ≤ 1048576 ∧ ∀ i, i < n → (S i).size ≤ 1048576) ∧ (0 ≤ al ∧ al < n) ∧ (0 ≤ rf ∧ rf < n) ∧ neg < 0
  · obtain ⟨⟨h1, h2⟩, ⟨h3, h4⟩, ⟨h5, h6⟩, h7⟩ := hall
    obtain ⟨al', rfl⟩ := Int.eq_ofNat_of_zero_le h3
    obtain ⟨rf', rfl⟩ := Int.eq_ofNat_of_zero_le h5
    obtain rfl := hga (by omega)
    exact law5_mid gb go n c al' rf' neg S sure aside w h1 (by omega) (by omega) h7 hc h2
  · refine law5_out ga gb go n c al rf neg S sure aside w hn hga hc hs (fun h => ?_)
    have : ¬ ((0 ≤ al ∧ al < n) ∧ (0 ≤ rf ∧ rf < n) ∧ neg < 0) := fun h' => hall ⟨h, h'⟩
    omega

theorem walk5 (a0 : Option Addr) (n c : Nat) (a1 a2 a3 : Int) (a4 a5 : Bool) (z : Strs) (w : World) (h : StrsIn w a0 n c z) (_w1 : (Lit.int .i64 a1).wf = true) (_w2 : (Lit.int .i64 a2).wf = true) (_w3 : (Lit.int .i64 a3).wf = true) :
    Calls Try.prog 5 #[.slice a0 n c, .int .i64 a1, .int .i64 a2, .int .i64 a3, .bool a4, .bool a5] w (TrueRet w) :=
  law5_any a0 z.b z.o n c a1 a2 a3 z.at_ a4 a5 w h.len h.addr h.cell h.size

end Go.Proofs.Qxb6619656a
