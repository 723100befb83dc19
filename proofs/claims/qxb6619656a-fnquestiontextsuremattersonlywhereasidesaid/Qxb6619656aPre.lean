/-
  Contracts of zzB1HasPrefix (21), zzB1HasSuffix (23); plain facts on byte strings.
-/
import Derived.Test.Qxb6619656aText
namespace Go.Proofs.Qxb6619656a
open Go.RowKit

theorem bytes_ext {a b : ByteArray} (h : a.data.toList = b.data.toList) : a = b := by
  cases a; cases b; simp only [ByteArray.mk.injEq]; exact Array.toList_inj.1 h

theorem size_app (a b : ByteArray) : (a ++ b).size = a.size + b.size := ByteArray.size_append

theorem extract_pre (p t : ByteArray) : (p ++ t).extract 0 p.size = p := by
  apply bytes_ext
  rw [ByteArray.data_extract, ByteArray.data_append, Array.toList_extract, Array.toList_append, ← ByteArray.size_data, List.extract_eq_take_drop, List.drop_zero, Nat.sub_zero]
  exact List.take_left' (Array.length_toList)

theorem extract_suf (p t : ByteArray) : (p ++ t).extract p.size (p ++ t).size = t := by
  apply bytes_ext
  rw [ByteArray.data_extract, size_app, ByteArray.data_append, Array.toList_extract, Array.toList_append, ← ByteArray.size_data, ← ByteArray.size_data, List.extract_eq_take_drop, List.drop_left' (Array.length_toList)]
  exact List.take_of_length_le (by rw [Array.length_toList]; omega)

theorem extract_suf' (p t : ByteArray) : (p ++ t).extract ((p ++ t).size - t.size) (p ++ t).size = t := by
  have : (p ++ t).size - t.size = p.size := by rw [size_app]; omega
  rw [this, extract_suf]

/-- A bool comes back; the world is as it was. -/
def BoolIs (b : Bool) (w : World) (e : Ending) (w' : World) : Prop := e = .returned (.bool b) ∧ w = w'

set_option maxHeartbeats 400000 in
theorem prefix_ge (s p : ByteArray) (w : World) (h : p.size ≤ s.size) (_hm : s.size ≤ 9223372036854775807) : Calls Try.prog 21 #[.string s, .string p] w (BoolIs ((s.extract 0 p.size).toList == p.toList) w) := by
  have h' : (p.size : Int) ≤ (s.size : Int) := by omega
  go_enter Try.func21, Try.ntmps21
  go_wp2
  go_ret
  exact ⟨rfl, rfl⟩

set_option maxHeartbeats 400000 in
theorem suffix_ge (s p : ByteArray) (w : World) (h : p.size ≤ s.size) (hm : s.size ≤ 9223372036854775807) : Calls Try.prog 23 #[.string s, .string p] w (BoolIs ((s.extract (s.size - p.size) s.size).toList == p.toList) w) := by
  have h' : (p.size : Int) ≤ (s.size : Int) := by omega
  go_enter Try.func23, Try.ntmps23
  go_wp2
  go_ret
  exact ⟨rfl, rfl⟩

theorem prefix_app (p t : ByteArray) (w : World) (hm : (p ++ t).size ≤ 9223372036854775807) : Calls Try.prog 21 #[.string (p ++ t), .string p] w (BoolIs true w) := by
  have := prefix_ge (p ++ t) p w (by rw [size_app]; omega) hm
  rw [extract_pre, beq_self_eq_true] at this
  exact this

theorem suffix_app (p t : ByteArray) (w : World) (hm : (p ++ t).size ≤ 9223372036854775807) : Calls Try.prog 23 #[.string (p ++ t), .string t] w (BoolIs true w) := by
  have := suffix_ge (p ++ t) t w (by rw [size_app]; omega) hm
  rw [extract_suf', beq_self_eq_true] at this
  exact this

/-- What stands behind the beginning and the refused policy's clause. -/
def qTail (sure aside : Bool) : ByteArray :=
  match aside, sure with
  | true, true => kWhat ++ kQ
  | true, false => kSome ++ kQ
  | false, _ => kQ

theorem app_assoc (a b c : ByteArray) : a ++ b ++ c = a ++ (b ++ c) := ByteArray.append_assoc

theorem qFin_tail (sure aside : Bool) (t : ByteArray) : qFin sure aside t = t ++ qTail sure aside := by
  cases aside <;> cases sure <;> simp only [qFin, qTail, app_assoc]

theorem qText_neg (S : Nat → ByteArray) (al : Nat) (rf : Int) (h : rf < 0) (sure aside : Bool) : qText S al rf sure aside = qHead (S al) ++ qTail sure aside := by
  unfold qText qRef; rw [if_pos h, qFin_tail]

theorem qText_pos (S : Nat → ByteArray) (al rf : Nat) (sure aside : Bool) : qText S al rf sure aside = qHead (S al) ++ kThat ++ S rf ++ kNot ++ qTail sure aside := by
  unfold qText qRef; rw [if_neg (by omega), qFin_tail, Int.toNat_natCast]; simp only [app_assoc]

theorem size_qHead (a : ByteArray) : (qHead a).size = a.size + 24 := by
  unfold qHead; rw [size_app, size_app]; show 5 + a.size + 19 = _; omega

theorem size_qTail (sure aside : Bool) : (qTail sure aside).size ≤ 50 := by
  cases aside <;> cases sure <;> decide +kernel

end Go.Proofs.Qxb6619656a
