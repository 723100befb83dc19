/-
  Contract of ZZRequestText (12).
-/
import Derived.Test.Qxb6619656aReq
namespace Go.Proofs.Qxb6619656a
open Go.RowKit

theorem OwnStrs.low {w : World} {b b' : Nat} {v : Value} {xs : List ByteArray} (h : OwnStrs w b v xs) (hb : b' ≤ b) : OwnStrs w b' v xs := by
  refine ⟨h.1, ?_⟩
  rcases h.2 with h' | ⟨g, cap, cur, h1, h2, h3⟩
  · exact .inl h'
  · exact .inr ⟨g, cap, cur, h1, Nat.le_trans hb h2, h3⟩

theorem cell_second (w : World) (o1 : Obj) (x y : Value) (e : TypeId) : ((w.alloc o1).alloc (.cells #[x, y] e)).cell? ⟨w.heap.size + 1, 1, none⟩ = some y := by
  rw [World.cell?_alloc_at _ _ _ _ (by rw [Go.Deep.nblk_alloc])]
  rfl

theorem ReqRet.low {pre : List ByteArray} {z : SGrid} {I : List Nat} {w W w' : World} {e : Ending} (h : ReqRet pre z I W e w') (hb : Below w.heap.size w W) : ReqRet pre z I w e w' := by
  obtain ⟨v, ord, h1, h2, h3, h4⟩ := h
  exact ⟨v, ord, h1, h2.low hb.size, h3, hb.trans (h4.mono hb.size)⟩

set_option maxRecDepth 100000 in
set_option maxHeartbeats 400000 in
theorem zzReq_map (act res kd val : ByteArray) (hp : Bool) (kf : Nat → ByteArray) (z : SGrid) (I : List Nat) (bm m : Nat) (va : Option Addr) (vn : Nat) (w : World) (hI : I.length ≤ 1048576) (hL : ∀ i, z.L i ≤ 1048576) (hIn : I.Nodup)
    (hinj : ∀ i j, i ∈ I → j ∈ I → kf i = kf j → i = j) (hsz : ∀ i, i ∈ I → (kf i).size ≤ maxLen) (hz : SGridIn w va vn z) (hM : CtxMap w bm m kf z I) :
    Calls Try.prog 12 #[.string act, .string res, .bool hp, .string kd, .string val, .map (some bm)] w (ReqRet (preOf act res (if hp then some val else none)) z I w) := by
  have hbm := hM.lt
  cases hp with
  | false =>
    have H : Hid (∀ w', Below w.heap.size w w' → Calls Try.prog 31 #[.agg #[.pointer none, .string act, .string res, .map (some bm)]] w' (ReqRet (preOf act res none) z I w')) := fun w' h =>
      reqText_map act res none none kf z I bm m va vn w' hI hL hIn hinj hsz (hz.later h (Nat.le_refl _)) (hM.below h hbm) rfl
    clear hL hinj hsz hz hM
    go_enter Try.func12, Try.ntmps12
    go_wp2_with fail
    refine (H.out _ ((Below.refl _ _).alloc (Nat.le_refl _) _)).mono ?_
    intro e w2 h2
    have h3 := ReqRet.low h2 ((Below.refl _ _).alloc (Nat.le_refl _) _)
    obtain ⟨v, ord, rfl, h4⟩ := h3
    clear h2
    go_wp2
    go_ret
    exact ⟨v, ord, rfl, h4⟩
  | true =>
    have H : Hid (∀ w' pb, Below w.heap.size w w' → w'.cell? ⟨pb, 1, none⟩ = some (.string val) → Calls Try.prog 31 #[.agg #[.pointer (some ⟨pb, 0, none⟩), .string act, .string res, .map (some bm)]] w' (ReqRet (preOf act res (some val)) z I w')) := fun w' pb h hc =>
      reqText_map act res (some val) (some ⟨pb, 0, none⟩) kf z I bm m va vn w' hI hL hIn hinj hsz (hz.later h (Nat.le_refl _)) (hM.below h hbm) ⟨pb, rfl, hc⟩
    clear hL hinj hsz hz hM
    go_enter Try.func12, Try.ntmps12
    go_wp2_with fail
    refine (H.out _ _ (((Below.refl _ _).alloc (Nat.le_refl _) _).alloc (by simp) _) (cell_second w _ _ _ _)).mono ?_
    intro e w2 h2
    have h3 := ReqRet.low h2 (((Below.refl w.heap.size w).alloc (Nat.le_refl _) _).alloc (by simp) _)
    obtain ⟨v, ord, rfl, h4⟩ := h3
    clear h2
    go_wp2
    go_ret
    exact ⟨v, ord, rfl, h4⟩

end Go.Proofs.Qxb6619656a
