/-
  Contract of zzB1Contains (24); the walk of FnQuestionTextSureMattersOnlyWhereAside (6).
-/
import Derived.Test.Qxb6619656aLaw5
namespace Go.Proofs.Qxb6619656a
open Go.RowKit

def hitB (s sub : ByteArray) (i : Nat) : Bool := decide (i + sub.size ≤ s.size) && (s.extract i (i + sub.size)).toList == sub.toList
/-- Does sub stand in s? -/
def containsB (s sub : ByteArray) : Bool := (List.range (s.size + 1)).any (hitB s sub)

theorem contains_yes {s sub : ByteArray} {i : Nat} (h : i + sub.size ≤ s.size) (h2 : ((s.extract i (i + sub.size)).toList == sub.toList) = true) : containsB s sub = true := by
  unfold containsB
  rw [List.any_eq_true]
  exact ⟨i, List.mem_range.2 (by omega), by simp [hitB, h]; simpa using h2⟩

theorem contains_no {s sub : ByteArray} (h : ∀ i, i + sub.size ≤ s.size → ((s.extract i (i + sub.size)).toList == sub.toList) = false) : containsB s sub = false := by
  unfold containsB
  rw [List.any_eq_false]
  intro i _
  by_cases hi : i + sub.size ≤ s.size
  · have := h i hi
    simp [hitB, hi]
    simpa using this
  · simp [hitB, hi]

set_option maxRecDepth 100000 in
set_option maxHeartbeats 400000 in
theorem contains_any (s sub : ByteArray) (w : World) (hs : s.size ≤ 1000000000) (hsub : sub.size ≤ 1000000000) : Calls Try.prog 24 #[.string s, .string sub] w (BoolIs (containsB s sub) w) := by
  by_cases h0 : s.size < sub.size
  · have h0' : (s.size : Int) < (sub.size : Int) := by omega
    have hno : containsB s sub = false := contains_no (fun i hi => absurd hi (by omega))
    rw [hno]
    clear hno
    go_enter Try.func24, Try.ntmps24
    go_wp2
    go_ret
    exact ⟨rfl, rfl⟩
  · have h0' : ¬ (s.size : Int) < (sub.size : Int) := by omega
    go_enter Try.func24, Try.ntmps24
    go_wp2
    go_loop [5] (fun i => ∃ k : Nat, k + sub.size ≤ s.size + 1 ∧ i = .int .i64 k ∧ ∀ j, j < k → j + sub.size ≤ s.size → ((s.extract j (j + sub.size)).toList == sub.toList) = false) (fun i => s.size + 1 - (intOf i).toNat)
    case atStart => exact ⟨0, by omega, rfl, fun j hj => absurd hj (Nat.not_lt_zero _)⟩
    case round =>
      obtain ⟨k, hk, rfl, hno⟩ := hrel
      have HN := (show Hid _ from hno)
      clear hno
      by_cases hlt : k + sub.size ≤ s.size
      · have hlt' : (k : Int) + (sub.size : Int) ≤ (s.size : Int) := by omega
        cases hb : ((s.extract k (k + sub.size)).toList == sub.toList) with
        | true =>
          have HB := (show Hid _ from hb)
          go_wp2
          go_ret
          exact ⟨by rw [contains_yes hlt HB.out]; rfl, rfl⟩
        | false =>
          have HB := (show Hid _ from hb)
          go_wp2
          go_round
          case rel =>
            refine ⟨k + 1, by omega, by go_num, fun j hj hjs => ?_⟩
            by_cases e : j = k
            · subst e; exact HB.out
            · exact HN.out j (by omega) hjs
          case measure => simp [intOf]; omega
      · have hlt' : ¬ (k : Int) + (sub.size : Int) ≤ (s.size : Int) := by omega
        go_wp2
        go_ret
        exact ⟨by rw [contains_no (fun i hi => HN.out i (by omega) hi)]; rfl, rfl⟩

abbrev kWhatever : ByteArray := { data := #[119, 104, 97, 116, 101, 118, 101, 114] }
abbrev kForSome : ByteArray := { data := #[102, 111, 114, 32, 115, 111, 109, 101, 32, 119, 97, 121] }

theorem what_what : containsB kWhat kWhatever = true := by decide +kernel
theorem what_for : containsB kWhat kForSome = false := by decide +kernel
theorem some_for : containsB kSome kForSome = true := by decide +kernel
theorem some_what : containsB kSome kWhatever = false := by decide +kernel

theorem beq_ne_of_size {a b : ByteArray} (h : a.size ≠ b.size) : (a.toList == b.toList) = false := by
  rw [beq_eq_false_iff_ne]
  intro e
  rw [ByteArray.toList_eq, ByteArray.toList_eq] at e
  apply h
  rw [← ByteArray.size_data, ← ByteArray.size_data, ← Array.length_toList, ← Array.length_toList, e]

theorem extract_mid (p q t : ByteArray) : (p ++ q ++ t).extract p.size ((p ++ q ++ t).size - t.size) = q := by
  have h1 : (p ++ q ++ t).size - t.size = p.size + q.size := by rw [size_app, size_app]; omega
  rw [h1]
  apply bytes_ext
  rw [ByteArray.data_extract, ByteArray.data_append, ByteArray.data_append, Array.toList_extract, Array.toList_append, Array.toList_append, ← ByteArray.size_data, ← ByteArray.size_data, List.extract_eq_take_drop, List.append_assoc, List.drop_left' (Array.length_toList)]
  exact List.take_left' (by rw [Array.length_toList]; omega)

theorem extract_init (p t : ByteArray) : (p ++ t).extract 0 ((p ++ t).size - t.size) = p := by
  have h1 : (p ++ t).size - t.size = p.size := by rw [size_app]; omega
  rw [h1, extract_pre]

/-- The question's beginning and the refused policy's clause. -/
def qMid (S : Nat → ByteArray) (al : Nat) (rf : Int) : ByteArray := qRef S rf (qHead (S al))

theorem qMid_head (S : Nat → ByteArray) (al : Nat) (rf : Int) (n : Nat) (hrf : rf < n) (hs : ∀ i, i < n → (S i).size ≤ 1048576) : ∃ T : ByteArray, qMid S al rf = qHead (S al) ++ T ∧ T.size ≤ 1048600 := by
  unfold qMid qRef
  by_cases h : rf < 0
  · rw [if_pos h]
    exact ⟨ByteArray.empty, (ByteArray.append_empty).symm, by decide⟩
  · rw [if_neg h]
    refine ⟨_, rfl, ?_⟩
    have := hs rf.toNat (by omega)
    rw [size_app, size_app]
    show 6 + (S rf.toNat).size + 9 ≤ _
    omega

set_option maxRecDepth 100000 in
set_option maxHeartbeats 1000000 in
theorem law6_mid (gb go n c al : Nat) (rf : Int) (S : Nat → ByteArray) (w : World) (hn : n ≤ 1048576) (hal : al < n) (hrf : rf < n)
    (hc : ∀ i, i < n → w.cell? ⟨gb, go + i, none⟩ = some (.string (S i))) (hs : ∀ i, i < n → (S i).size ≤ 1048576) :
    Calls Try.prog 6 #[.slice (some ⟨gb, go, none⟩) n c, .int .i64 al, .int .i64 rf] w (TrueRet w) := by
  obtain ⟨i0, hi, hz0, hz1, hz2⟩ := info_parts Try.info9
  have hgb : gb < w.heap.size := World.block_lt_of_cell? _ _ (hc al hal)
  have hal' : (al : Int) < (n : Int) := by omega
  have d1 : ¬ ((al : Int) < 0) := by omega
  have d2 : ¬ (n ≤ al) := by omega
  have d3 : ¬ ((n : Int) ≤ rf) := by omega
  have hnn := fun (w : World) (ca : Nat) => run_neq_slice_nil_any (P := Try.prog) w 22 9 (some ⟨gb, go, none⟩) n ca 0 0 Try.underlying22
  have HB : Hid (∀ w', w' = w → Calls Try.prog 22 #[.slice (some ⟨gb, go, none⟩) n c, .int .i64 al, .int .i64 rf] w' (BoolRet (fun b => b = true → n ≤ 1048576 ∧ ∀ i, i < n → (S i).size ≤ 1048576) w')) := fun w' h => by
    subst h; exact bytesNames22 (some ⟨gb, go, none⟩) gb go n c S al rf w' (by unfold maxLen; omega) (fun _ => rfl) hc (fun i hi => by have := hs i hi; unfold maxLen; omega)
  have HN : Hid (∀ w', w' = w → Calls Try.prog 19 #[.slice (some ⟨gb, go, none⟩) n c] w' (BoolRet (fun _ => True) w')) := fun w' h => by
    subst h; exact namesTooBig_any (some ⟨gb, go, none⟩) gb go n c S w' (by unfold maxLen; omega) (fun _ => rfl) hc (fun i hi => by have := hs i hi; unfold maxLen; omega)
  have HC : Hid (∀ i, i < n → w.cell? ⟨gb, go + i, none⟩ = some (.string (S i))) := hc
  have HS : Hid (∀ i, i < n → (S i).size ≤ 1048576) := hs
  clear hc hs
  go_enter Try.func6, Try.ntmps6
  go_wp2_with fail
  refine (HB.out _ rfl).mono ?_
  rintro e w' ⟨b, rfl, _, rfl⟩
  cases b
  · go_wp2
    go_ret
    exact ⟨rfl, Below.refl _ _⟩
  go_wp2_with fail
  refine (HN.out _ rfl).mono ?_
  rintro e w' ⟨b, rfl, _, rfl⟩
  cases b
  rotate_left
  · go_wp2
    go_ret
    exact ⟨rfl, Below.refl _ _⟩
  clear HB HN
  go_wp2_with (at_make; go_must (refine wpList_make_full _ rfl _ _ 22 rfl w.heap.size 9 i0 _ 1 Try.underlying22 hi hz0 hz1 _ _ _ _ n rfl rfl rfl rfl (by rw [hz2]; omega) (by unfold maxLen; omega) (Nat.le_refl _) ?_); intro w1 hown1 hg1; obtain ⟨w2, hrun2, hc2, hb2, hs2⟩ := copy_strs (w := w) (c := c) (ad := ⟨gb, go, none⟩) (S := S) hown1 ((Below.refl _ _).grown hg1 (Nat.le_refl _) (fun _ h => by cases h)) (Nat.le_refl _) (fun i hi => by rw [Addr.add_lit]; exact hg1.cell (HC.out i hi) (by simp)); have HC2 := (show Hid _ from hc2); clear hc2)
  have HB2 : Hid (Below w.heap.size w w2) := hb2
  have hB2 : w.heap.size < w2.heap.size := World.block_lt_of_cell? _ _ (HC2.out al hal)
  have hsal := HS.out al hal
  have hPs := size_qHead (S al)
  obtain ⟨T, hT, hTs⟩ := qMid_head S al rf n hrf HS.out
  obtain ⟨M, hM⟩ : ∃ M, M = qMid S al rf := ⟨_, rfl⟩
  have hMT : M = qHead (S al) ++ T := hM.trans hT
  have hMs : M.size = (qHead (S al)).size + T.size := by rw [hMT, size_app]
  obtain ⟨PL, hPL⟩ : ∃ PL, PL = M ++ kQ := ⟨_, rfl⟩
  obtain ⟨SU, hSU⟩ : ∃ SU, SU = M ++ kWhat ++ kQ := ⟨_, rfl⟩
  obtain ⟨MA, hMA⟩ : ∃ MA, MA = M ++ kSome ++ kQ := ⟨_, rfl⟩
  have sPL : PL.size = M.size + 1 := by rw [hPL, size_app]; rfl
  have sSU : SU.size = M.size + 41 := by rw [hSU, size_app, size_app]; show M.size + 40 + 1 = _; omega
  have sMA : MA.size = M.size + 50 := by rw [hMA, size_app, size_app]; show M.size + 49 + 1 = _; omega
  have HQ : Hid (∀ su asd w', Below w2.heap.size w2 w' → Calls Try.prog 20 #[.int .i64 al, .int .i64 rf, .bool su, .slice (some ⟨w.heap.size, 0, none⟩) n n, .bool asd] w' (StrRet (qFin su asd M) w')) := fun su asd w' h => by
    have := qtext_any (some ⟨w.heap.size, 0, none⟩) w.heap.size 0 n n al rf S su asd w' hn hal hrf (fun _ => rfl) (fun i hi => by rw [Nat.zero_add, h.cell (p := ⟨w.heap.size, i, none⟩) hB2]; exact HC2.out i hi) HS.out
    rw [show qText S al rf su asd = qFin su asd M by rw [hM]; rfl] at this
    exact this
  have H1 : Hid (∀ w', Below w2.heap.size w2 w' → Calls Try.prog 20 #[.int .i64 al, .int .i64 rf, .bool true, .slice (some ⟨w.heap.size, 0, none⟩) n n, .bool false] w' (StrRet PL w')) := fun w' h => by rw [hPL]; exact HQ.out true false w' h
  have H2 : Hid (∀ w', Below w2.heap.size w2 w' → Calls Try.prog 20 #[.int .i64 al, .int .i64 rf, .bool false, .slice (some ⟨w.heap.size, 0, none⟩) n n, .bool false] w' (StrRet PL w')) := fun w' h => by rw [hPL]; exact HQ.out false false w' h
  have H3 : Hid (∀ w', Below w2.heap.size w2 w' → Calls Try.prog 20 #[.int .i64 al, .int .i64 rf, .bool true, .slice (some ⟨w.heap.size, 0, none⟩) n n, .bool true] w' (StrRet SU w')) := fun w' h => by rw [hSU]; exact HQ.out true true w' h
  have H4 : Hid (∀ w', Below w2.heap.size w2 w' → Calls Try.prog 20 #[.int .i64 al, .int .i64 rf, .bool false, .slice (some ⟨w.heap.size, 0, none⟩) n n, .bool true] w' (StrRet MA w')) := fun w' h => by rw [hMA]; exact HQ.out false true w' h
  have P1 : Hid (∀ w', Calls Try.prog 21 #[.string PL, .string (qHead (S al))] w' (BoolIs true w')) := fun w' => by
    have := prefix_app (qHead (S al)) (T ++ kQ) w' (by rw [← app_assoc, ← hMT, ← hPL]; omega)
    rw [← app_assoc, ← hMT, ← hPL] at this
    exact this
  have P2 : Hid (∀ w', Calls Try.prog 23 #[.string PL, .string kQ] w' (BoolIs true w')) := fun w' => by
    have := suffix_app M kQ w' (by rw [← hPL]; omega)
    rw [← hPL] at this
    exact this
  have P3 : Hid (∀ w', Calls Try.prog 21 #[.string SU, .string M] w' (BoolIs true w')) := fun w' => by
    have := prefix_app M (kWhat ++ kQ) w' (by rw [← app_assoc, ← hSU]; omega)
    rw [← app_assoc, ← hSU] at this
    exact this
  have P4 : Hid (∀ w', Calls Try.prog 23 #[.string SU, .string kQ] w' (BoolIs true w')) := fun w' => by
    have := suffix_app (M ++ kWhat) kQ w' (by rw [← hSU]; omega)
    rw [← hSU] at this
    exact this
  have P5 : Hid (∀ w', Calls Try.prog 21 #[.string MA, .string M] w' (BoolIs true w')) := fun w' => by
    have := prefix_app M (kSome ++ kQ) w' (by rw [← app_assoc, ← hMA]; omega)
    rw [← app_assoc, ← hMA] at this
    exact this
  have P6 : Hid (∀ w', Calls Try.prog 23 #[.string MA, .string kQ] w' (BoolIs true w')) := fun w' => by
    have := suffix_app (M ++ kSome) kQ w' (by rw [← hMA]; omega)
    rw [← hMA] at this
    exact this
  have E1 : Hid (PL.extract 0 (PL.size - 1) = M) := by show _ = _; rw [hPL]; exact extract_init M kQ
  have E2 : Hid (SU.extract M.size (SU.size - 1) = kWhat) := by show _ = _; rw [hSU]; exact extract_mid M kWhat kQ
  have E3 : Hid (MA.extract M.size (MA.size - 1) = kSome) := by show _ = _; rw [hMA]; exact extract_mid M kSome kQ
  have hne : (SU.toList == MA.toList) = false := beq_ne_of_size (by omega)
  have HT2 : Hid (∀ w', Below w2.heap.size w2 w' → w'.cell? ⟨w.heap.size, al, none⟩ = some (.string (S al))) := fun w' h => by
    rw [h.cell (p := ⟨w.heap.size, al, none⟩) hB2]; exact HC2.out al hal
  have HHd : Hid (∀ w', Calls Try.prog 21 #[.string PL, .string (qHead (S al))] w' (BoolIs true w')) := P1
  have b1 : M.size ≤ 3000000 := by omega
  have b2 : PL.size ≤ 3000000 := by omega
  have b3 : PL.size < SU.size := by omega
  have b4 : PL.size < MA.size := by omega
  have b5 : SU.size ≤ 3000000 := by omega
  have b6 : MA.size ≤ 3000000 := by omega
  have b7 : M.size < SU.size := by omega
  have b8 : M.size < MA.size := by omega
  have b9 : 1 ≤ PL.size := by omega
  clear HQ hT hTs hM hMT hMs hPL hSU hMA sPL sSU sMA hPs P1 hrun2 hown1 hg1 hb2 HC2 HS HC hnn hi hz0 hz1 hz2 hs2
  refine (H1.out _ (Below.refl _ _)).mono ?_
  rintro e w3 ⟨rfl, hb3⟩
  go_wp2_with fail
  refine (H2.out _ hb3).mono ?_
  rintro e w4 ⟨rfl, hb4'⟩
  have hb4 := hb3.trans (hb4'.mono hb3.size)
  clear hb4' hb3
  go_wp2_with fail
  refine (H3.out _ hb4).mono ?_
  rintro e w5 ⟨rfl, hb5'⟩
  have hb5 := hb4.trans (hb5'.mono hb4.size)
  clear hb5' hb4
  go_wp2_with fail
  refine (H4.out _ hb5).mono ?_
  rintro e w6 ⟨rfl, hb6'⟩
  have hb6 := hb5.trans (hb6'.mono hb5.size)
  clear hb6' hb5 H1 H2 H3 H4
  have hcl := HT2.out _ hb6
  clear HT2
  go_wp2_with fail
  refine (HHd.out _).mono ?_
  rintro e w7 ⟨rfl, rfl⟩
  go_wp2_with fail
  refine (P2.out _).mono ?_
  rintro e w7 ⟨rfl, rfl⟩
  go_wp2_with fail
  rw [E1.out]
  refine (P3.out _).mono ?_
  rintro e w7 ⟨rfl, rfl⟩
  go_wp2_with fail
  refine (P4.out _).mono ?_
  rintro e w7 ⟨rfl, rfl⟩
  go_wp2_with fail
  refine (P5.out _).mono ?_
  rintro e w7 ⟨rfl, rfl⟩
  go_wp2_with fail
  refine (P6.out _).mono ?_
  rintro e w7 ⟨rfl, rfl⟩
  clear P2 P3 P4 P5 P6 E1 HHd hcl
  have b10 : (M.size : Int) ≤ (SU.size : Int) - 1 := by omega
  have b11 : (M.size : Int) ≤ (MA.size : Int) - 1 := by omega
  go_wp2_with fail
  rw [E2.out, E3.out]
  refine (contains_any kWhat kWhatever _ (by decide) (by decide)).mono ?_
  rw [what_what]
  rintro e w7 ⟨rfl, rfl⟩
  go_wp2_with fail
  refine (contains_any kWhat kForSome _ (by decide) (by decide)).mono ?_
  rw [what_for]
  rintro e w7 ⟨rfl, rfl⟩
  go_wp2_with fail
  refine (contains_any kSome kForSome _ (by decide) (by decide)).mono ?_
  rw [some_for]
  rintro e w7 ⟨rfl, rfl⟩
  go_wp2_with fail
  refine (contains_any kSome kWhatever _ (by decide) (by decide)).mono ?_
  rw [some_what]
  rintro e w7 ⟨rfl, rfl⟩
  go_wp2
  go_ret
  exact ⟨rfl, HB2.out.trans (hb6.mono HB2.out.size)⟩

set_option maxRecDepth 100000 in
set_option maxHeartbeats 400000 in
theorem law6_out (ga : Option Addr) (gb go n c : Nat) (al rf : Int) (S : Nat → ByteArray) (w : World) (hn : n ≤ maxLen) (hga : 0 < n → ga = some ⟨gb, go, none⟩)
    (hc : ∀ i, i < n → w.cell? ⟨gb, go + i, none⟩ = some (.string (S i))) (hs : ∀ i, i < n → (S i).size ≤ maxLen)
    (hout : (n ≤ 1048576 ∧ ∀ i, i < n → (S i).size ≤ 1048576) → al < 0 ∨ (0 ≤ al ∧ n ≤ al) ∨ (0 ≤ al ∧ al < n ∧ n ≤ rf)) :
    Calls Try.prog 6 #[.slice ga n c, .int .i64 al, .int .i64 rf] w (TrueRet w) := by
  have HB : Hid (∀ w', w' = w → Calls Try.prog 22 #[.slice ga n c, .int .i64 al, .int .i64 rf] w' (BoolRet (fun b => b = true → n ≤ 1048576 ∧ ∀ i, i < n → (S i).size ≤ 1048576) w')) := fun w' h => by
    subst h; exact bytesNames22 ga gb go n c S al rf w' hn hga hc hs
  have HN : Hid (∀ w', w' = w → Calls Try.prog 19 #[.slice ga n c] w' (BoolRet (fun _ => True) w')) := fun w' h => by
    subst h; exact namesTooBig_any ga gb go n c S w' hn hga hc hs
  have HO := (show Hid _ from hout)
  clear hout hc hs hga
  go_enter Try.func6, Try.ntmps6
  go_wp2_with fail
  refine (HB.out _ rfl).mono ?_
  rintro e w' ⟨b, rfl, hb, rfl⟩
  cases b
  · clear hb
    go_wp2
    go_ret
    exact ⟨rfl, Below.refl _ _⟩
  have HCA := (show Hid _ from HO.out (hb rfl))
  clear hb
  go_wp2_with fail
  refine (HN.out _ rfl).mono ?_
  rintro e w' ⟨b, rfl, _, rfl⟩
  cases b
  rotate_left
  · go_wp2
    go_ret
    exact ⟨rfl, Below.refl _ _⟩
  rcases HCA.out with h1 | ⟨h1, h2⟩ | ⟨h1, h2, h3⟩
  all_goals
    clear HB HN HO HCA
    go_wp2
    go_ret
    exact ⟨rfl, Below.refl _ _⟩

theorem walk6 (a0 : Option Addr) (n c : Nat) (al rf : Int) (z : Strs) (w : World) (h : StrsIn w a0 n c z) (_w1 : (Lit.int .i64 al).wf = true) (_w2 : (Lit.int .i64 rf).wf = true) :
    Calls Try.prog 6 #[.slice a0 n c, .int .i64 al, .int .i64 rf] w (TrueRet w) := by
  by_cases hall : (n ≤ 1048576 ∧ ∀ i, i < n → (z.at_ i).size ≤ 1048576) ∧ (0 ≤ al ∧ al < n) ∧ rf < n
  · obtain ⟨⟨h1, h2⟩, ⟨h3, h4⟩, h5⟩ := hall
    obtain ⟨al', rfl⟩ := Int.eq_ofNat_of_zero_le h3
    obtain rfl := h.addr (by omega)
    exact law6_mid z.b z.o n c al' rf z.at_ w h1 (by omega) h5 h.cell h2
  · refine law6_out a0 z.b z.o n c al rf z.at_ w h.len h.addr h.cell h.size (fun h' => ?_)
    have : ¬ ((0 ≤ al ∧ al < n) ∧ rf < n) := fun h'' => hall ⟨h', h''⟩
    omega

end Go.Proofs.Qxb6619656a
