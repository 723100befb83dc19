/-
  What transmit does to the air: the channels grow, one is stamped, the log grows.
-/
import Derived.Test.Qxb6623390aAirr
namespace Go.Proofs.Qxb6623390a
open Go.RowKit

/-- A message in a block of its own. -/
structure MsgAt (w : World) (mb : Nat) (m : Nat → Int) : Prop where
  cell : ∀ f, f < 5 → w.cell? ⟨mb, f, none⟩ = some (.int .i64 (m f))

theorem MsgAt.kept {w w' : World} {mb : Nat} {m : Nat → Int} {row : Option Nat} (h : MsgAt w mb m) (hg : w.grownBy w' row) (hne : some mb ≠ row) : MsgAt w' mb m :=
  ⟨fun f hf => hg.cell (h.cell f hf) hne⟩
theorem MsgAt.lt {w : World} {mb : Nat} {m : Nat → Int} (h : MsgAt w mb m) : mb < w.heap.size := World.block_lt_of_cell? _ _ (h.cell 0 (by omega))

/-- The blocks from N on stay as they were. -/
def Keeps (N : Nat) (w w' : World) : Prop := ∀ b, N ≤ b → b < w.heap.size → w'.heap[b]? = w.heap[b]?

theorem Keeps.grown {N : Nat} {w w' w'' : World} {g : Nat} (h : Keeps N w w') (hs : w.heap.size ≤ w'.heap.size) (hg : w'.grownBy w'' (some g)) (hgN : g < N ∨ w.heap.size ≤ g) : Keeps N w w'' := fun b h1 h2 =>
  (hg.block b (by omega) (fun e => by cases e; omega)).trans (h b h1 h2)
theorem Keeps.below {N : Nat} {w w' : World} {B : Nat} (hb : Below B w w') (hB : w.heap.size ≤ B) : Keeps N w w' := fun b _ h2 => hb.block b (by omega)
theorem Keeps.trans {N : Nat} {a b c : World} (h : Keeps N a b) (hs : a.heap.size ≤ b.heap.size) (k : Keeps N b c) : Keeps N a c := fun i h1 h2 => (k i h1 (by omega)).trans (h i h1 h2)

def ext (cn : Nat) (C : Nat → Nat → Int) : Nat → Nat → Int := fun i f => if i < cn then C i f else 0

theorem grown_setCell (w : World) (b j : Nat) (v : Value) : w.grownBy (w.setCell ⟨b, j, none⟩ v) (some b) :=
  ⟨rfl, rfl, rfl, by simp, fun k _ hk => heap_setCell_other w ⟨b, j, none⟩ k v (fun e => hk (by simp [e]))⟩

theorem wrap_id (x : Int) (h1 : 0 ≤ x) (h2 : x ≤ 1048576) : IntKind.i64.wrap x = x := by
  simp [IntKind.wrap, IntKind.signed, IntKind.bits]
  omega

/-- 'a.channels = append(a.channels, make([]onAir, ch+1-len(a.channels))...)'. -/
theorem AirAt.growCh {B : Nat} {w : World} {ab gc cn cc gs sn sc : Nat} {C M : Nat → Nat → Int} (h : AirAt B w ab gc cn cc gs sn sc C M) {ch : Nat} (hch : cn ≤ ch) (hch2 : ch ≤ 65536) {mb : Nat} {m : Nat → Int} (hm : MsgAt w mb m) (n1 : mb ≠ ab) (n2 : mb ≠ gc) {N : Nat} (N1 : ab < N) (N2 : gc < N) :
    ∃ g' cap' w2, (Builtin.append_ #[46, 3] 46 #[.slice (some ⟨gc, 0, none⟩) cn cc, .int .i64 (IntKind.i64.wrap (IntKind.i64.wrap ((ch : Int) + 1) - (cn : Int)))]).run Try.prog w.drew = .ok (.slice (some ⟨g', 0, none⟩) (ch + 1) cap') w2 ∧
      w2.cell? ⟨ab, 0, none⟩ = some (.slice (some ⟨gc, 0, none⟩) cn cc) ∧ w2.frozen? ⟨ab, 0, none⟩ = false ∧
      ∃ w3, w3 = w2.setCell ⟨ab, 0, none⟩ (.slice (some ⟨g', 0, none⟩) (ch + 1) cap') ∧ AirAt B w3 ab g' (ch + 1) cap' gs sn sc (ext cn C) M ∧ MsgAt w3 mb m ∧ mb ≠ g' ∧ Below B w w3 ∧ Keeps N w w3 ∧ (g' < N ∨ w.heap.size ≤ g') := by
  obtain ⟨i1, hi1, hz1, hs1, hb1⟩ := info_parts Try.info51
  have hlt := h.lt
  have hlow := h.low
  have hc : RowI w.drew B 51 2 gc cn cc C := h.ch.at_ rfl
  obtain ⟨g', cap', w2, hr, h1, h2, h3⟩ := hc.zeros (m := ch + 1 - cn) (bytes := 16) Try.underlying46 hi1 hz1 hs1 hb1 rfl (by omega) (by simp [Value.cells]) 46 (by omega) (by unfold maxLen; omega) (by omega) (by show B ≤ w.heap.size; omega)
  have e1 : ((ch + 1 - cn : Nat) : Int) = IntKind.i64.wrap (IntKind.i64.wrap ((ch : Int) + 1) - (cn : Int)) := by
    rw [wrap_id ((ch : Int) + 1) (by omega) (by omega), wrap_id _ (by omega) (by omega)]
    omega
  have e2 : cn + (ch + 1 - cn) = ch + 1 := by omega
  rw [e1, e2] at hr
  rw [e2] at h1
  have h2' : w.grownBy w2 (some gc) := ⟨h2.os, h2.tape, h2.output, h2.size, h2.block⟩
  have hblk2 : w2.heap[ab]? = _ := (h2'.block ab hlt (by simpa using h.ne1.symm)).trans h.blk
  have ng : g' = gc ∨ g' = w.heap.size := h3
  have hgs := h.log.lt.2
  have na : g' ≠ ab := by have := h.ne1; omega
  have ns : g' ≠ gs := by have := h.ne3; omega
  have nm : mb ≠ g' := by have := hm.lt; omega
  have gst := grown_setCell w2 ab 0 (.slice (some ⟨g', 0, none⟩) (ch + 1) cap')
  refine ⟨g', cap', w2, hr, ?_, ?_, _, rfl, ⟨?_, h1.kept gst (by simpa using na), (h.log.kept h2' (by simpa using h.ne3.symm)).kept gst (by simpa using h.ne2), na, h.ne2, ns, hlow⟩, (hm.kept h2' (by simpa using n2)).kept gst (by simpa using n1), nm, ?_, ((Keeps.below (Below.refl w.heap.size w) (Nat.le_refl _)).grown (Nat.le_refl _) h2' (.inl N2)).grown h2'.size gst (.inl N1), by omega⟩
  · rw [cell_of_row w2 ab 0 _ 49 (0, 0) hblk2]; rfl
  · simp [World.frozen?, hblk2]
  · rw [heap_setCell_same w2 ab 0 _ 49 _ hblk2]; rfl
  · exact ((Below.refl _ _).grown h2' (by omega) (fun k e => by cases e; exact h.ch.lt.1)).grown gst (by have := h2'.size; omega) (fun k e => by cases e; exact hlow)

/-- 'a.sent = append(a.sent, msg)'. -/
theorem AirAt.addLog {B : Nat} {w : World} {ab gc cn cc gs sn sc : Nat} {C M : Nat → Nat → Int} (h : AirAt B w ab gc cn cc gs sn sc C M) (hsn : sn ≤ 65536) (m : Nat → Int) {N : Nat} (N1 : ab < N) (N2 : gs < N) :
    ∃ g' cap' w2, (Builtin.append_ #[47, 47] 47 #[.slice (some ⟨gs, 0, none⟩) sn sc, .slice (some ⟨w.heap.size, 0, none⟩) 1 1]).run Try.prog (w.alloc (.cells #[.int .i64 (m 0), .int .i64 (m 1), .int .i64 (m 2), .int .i64 (m 3), .int .i64 (m 4)] 37)).drew = .ok (.slice (some ⟨g', 0, none⟩) (sn + 1) cap') w2 ∧
      w2.cell? ⟨ab, 1, none⟩ = some (.slice (some ⟨gs, 0, none⟩) sn sc) ∧ w2.frozen? ⟨ab, 1, none⟩ = false ∧
      ∃ w3, w3 = w2.setCell ⟨ab, 1, none⟩ (.slice (some ⟨g', 0, none⟩) (sn + 1) cap') ∧ AirAt B w3 ab gc cn cc g' (sn + 1) cap' C (fun i f => if i < sn then M i f else m f) ∧ Below B w w3 ∧ Keeps N w w3 := by
  obtain ⟨i1, hi1, hz1, hs1, hb1⟩ := info_parts Try.info37
  have hlt := h.lt
  have hlow := h.low
  obtain ⟨w1, hw1⟩ : ∃ w1, w1 = (w.alloc (.cells #[.int .i64 (m 0), .int .i64 (m 1), .int .i64 (m 2), .int .i64 (m 3), .int .i64 (m 4)] 37)).drew := ⟨_, rfl⟩
  have b1 : Below w.heap.size w w1 := hw1 ▸ ((Below.refl _ _).alloc (Nat.le_refl _) _).drew
  have s1 : w1.heap.size = w.heap.size + 1 := by rw [hw1]; show (w.alloc _).heap.size = _; simp
  have h' := h.later b1
  have hcell : ∀ j, j < 5 → w1.cell? ((⟨w.heap.size, 0, none⟩ : Addr).add j) = some (.int .i64 (m j)) := fun j hj => by
    rw [hw1, Addr.add_lit]
    show (w.alloc _).cell? _ = _
    rw [World.cell?_alloc_at _ _ _ _ rfl]
    rcases (by omega : j = 0 ∨ j = 1 ∨ j = 2 ∨ j = 3 ∨ j = 4) with rfl | rfl | rfl | rfl | rfl <;> rfl
  rw [← hw1]
  obtain ⟨g', cap', w2, hr, h1, h2, h3⟩ := h'.log.one (bytes := 40) Try.underlying47 hi1 hz1 hs1 hb1 rfl (by omega) 47 ⟨w.heap.size, 0, none⟩ m hcell (by unfold maxLen; omega) (by omega) (by omega)
  have hblk2 : w2.heap[ab]? = _ := (h2.block ab (by omega) (by simpa using h.ne2.symm)).trans h'.blk
  have hgc := h'.ch.lt.2
  have na : g' ≠ ab := by have := h.ne2; omega
  have ns : gc ≠ g' := by have := h.ne3; omega
  have gst := grown_setCell w2 ab 1 (.slice (some ⟨g', 0, none⟩) (sn + 1) cap')
  refine ⟨g', cap', w2, hr, ?_, ?_, _, rfl, ⟨?_, (h'.ch.kept h2 (by simpa using h.ne3)).kept gst (by simpa using h.ne1), h1.kept gst (by simpa using na), h.ne1, na, ns, hlow⟩, ?_, ((Keeps.below b1 (Nat.le_refl _)).grown b1.size h2 (.inl N2)).grown (Nat.le_trans b1.size h2.size) gst (.inl N1)⟩
  · rw [cell_of_row w2 ab 1 _ 49 (0, 0) hblk2]; rfl
  · simp [World.frozen?, hblk2]
  · rw [heap_setCell_same w2 ab 1 _ 49 _ hblk2]; rfl
  · exact ((b1.mono (by omega)).grown h2 (by omega) (fun k e => by cases e; exact h.log.lt.1)).grown gst (by have := h2.size; omega) (fun k e => by cases e; exact hlow)

/-- One field of one channel is written. -/
theorem AirAt.setOne {B : Nat} {w : World} {ab gc cn cc gs sn sc : Nat} {C M : Nat → Nat → Int} (h : AirAt B w ab gc cn cc gs sn sc C M) {i : Nat} (hi : i < cn) (b : Int) :
    ∃ w', w' = w.setCell ⟨gc, i * 2 + 1, none⟩ (.int .i64 b) ∧ AirAt B w' ab gc cn cc gs sn sc (put2 C i (C i 0) b) M ∧ Below B w w' ∧ w.grownBy w' (some gc) := by
  obtain ⟨h3, h4⟩ := h.ch.set (f := 1) hi (by omega) b
  refine ⟨_, rfl, ⟨?_, h3.eq fun i' _ f hf => ?_, h.log.kept h4 (by simpa using h.ne3.symm), h.ne1, h.ne2, h.ne3, h.low⟩, ?_, h4⟩
  · rw [h4.block ab h.lt (by simpa using h.ne1.symm)]; exact h.blk
  · show _ = put2 C i (C i 0) b i' f
    unfold put2
    by_cases e : i' = i
    · rcases (by omega : f = 0 ∨ f = 1) with rfl | rfl <;> simp [e]
    · simp [e]
  · exact (Below.refl _ _).grown h4 (by have := h.low; have := h.lt; omega) (fun k e => by cases e; exact h.ch.lt.1)

theorem AirAt.setTwo {B : Nat} {w : World} {ab gc cn cc gs sn sc : Nat} {C M : Nat → Nat → Int} (h : AirAt B w ab gc cn cc gs sn sc C M) {i : Nat} (hi : i < cn) (a b : Int) :
    ∃ w', w' = (w.setCell ⟨gc, i * 2, none⟩ (.int .i64 a)).setCell ⟨gc, i * 2 + 1, none⟩ (.int .i64 b) ∧ AirAt B w' ab gc cn cc gs sn sc (put2 C i a b) M ∧ Below B w w' ∧ w.grownBy w' (some gc) := by
  obtain ⟨h1, h2⟩ := h.ch.set (f := 0) hi (by omega) a
  obtain ⟨h3, h4⟩ := h1.set (f := 1) hi (by omega) b
  rw [Nat.add_zero] at h1 h2 h3 h4
  have hg := grown_trans h2 h4
  refine ⟨_, rfl, ⟨?_, h3.eq fun i' _ f hf => ?_, h.log.kept hg (by simpa using h.ne3.symm), h.ne1, h.ne2, h.ne3, h.low⟩, ?_, hg⟩
  · rw [hg.block ab h.lt (by simpa using h.ne1.symm)]; exact h.blk
  · show _ = put2 C i a b i' f
    unfold put2
    by_cases e : i' = i
    · rcases (by omega : f = 0 ∨ f = 1) with rfl | rfl <;> simp [e]
    · simp [e]
  · exact (Below.refl _ _).grown hg (by have := h.low; have := h.lt; omega) (fun k e => by cases e; exact h.ch.lt.1)

end Go.Proofs.Qxb6623390a
