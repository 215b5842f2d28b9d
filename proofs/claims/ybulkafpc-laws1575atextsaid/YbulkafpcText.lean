/-
  THE WALK of LawS1575AText (4): three ways.
-/
import Derived.Test.YbulkafpcEnc

namespace Go.Proofs.Ybulkafpc
open Go.RowKit

/-- String() of the decoder's builder, whatever it holds -/
theorem string_any (b : Nat) (mk : Bool) (s : ByteArray) (w : World) (h : Holds b mk (Lib.strCells s) w) :
    Calls Yba.prog 11 #[.pointer (some ⟨b, 14, none⟩)] w fun e w' => e = .returned (.string s) ∧ Below b w w' := by
  by_cases h0 : s.data.toList = []
  · have hs : s = ByteArray.empty := by
      apply ByteArray.ext
      apply Array.toList_inj.1
      rw [h0]; rfl
    subst hs
    exact string_none b mk w h
  · have := string_some b mk s.data.toList w h h0
    simpa using this

theorem Holds.later {b : Nat} {mk : Bool} {bs : List Value} {w w' : World} (h : Holds b mk bs w) (hb : Below w.heap.size w w') : Holds b mk bs w' := by
  obtain ⟨v, hk, hown, hn⟩ := h
  exact ⟨v, by rw [hb.block b (lt_of_heap hk)]; exact hk, hown.kept (row := none) ⟨hb.os, hb.tape, hb.output, hb.size, fun k hk _ => hb.block k hk⟩ (Classical.em _), hn⟩

theorem strCells_append (s : ByteArray) (r : Int) : Lib.strCells s ++ Lib.runeCells r = Lib.strCells (s ++ ⟨(Lib.encodeRune r).toArray⟩) := by
  rw [← Lib.byteCells_encodeRune, Lib.strCells_eq, Lib.strCells_eq]
  simp [Lib.byteCells]

set_option maxHeartbeats 2000000 in
set_option maxRecDepth 100000 in
theorem text_long (mk : Bool) (s : ByteArray) (r : Int) (ws : s.size ≤ maxLen) (h : 1024 < s.size) (w : World) :
    Calls Yba.prog 4 #[.bool mk, .string s, .int .i32 r] w fun e w' => e = .returned (.bool true) ∧ Below w.heap.size w w' := by
  unfold maxLen at ws
  go_enter Yba.func4, Yba.ntmps4
  go_wp2_with fail
  go_ret
  exact ⟨rfl, Below.refl _ _⟩

set_option maxHeartbeats 2000000 in
set_option maxRecDepth 100000 in
theorem text_checking (s : ByteArray) (r : Int) (h : s.size ≤ 1024) (w : World) :
    Calls Yba.prog 4 #[.bool false, .string s, .int .i32 r] w fun e w' => e = .returned (.bool true) ∧ Below w.heap.size w w' := by
  go_enter Yba.func4, Yba.ntmps4
  go_wp2_with fail
  refine (writeString_fresh w.heap.size false s _ (heap_alloc_new w _) h).mono ?_
  rintro e w1 ⟨rfl, h1, b1⟩
  go_wp2_with fail
  refine (decRune_checking w.heap.size _ r _ h1).mono ?_
  rintro e w' ⟨⟨n, rfl⟩, rfl⟩
  go_wp2_with fail
  refine (string_any w.heap.size false s _ h1).mono ?_
  rintro e w2 ⟨rfl, b2⟩
  go_wp2
  go_ret
  exact ⟨by simp, (((Below.refl _ _).alloc (Nat.le_refl _) _).trans b1).trans b2⟩

set_option maxHeartbeats 2000000 in
set_option maxRecDepth 100000 in
theorem text_making (s : ByteArray) (r : Int) (hr0 : -2147483648 ≤ r) (hr1 : r ≤ 2147483647) (h : s.size ≤ 1024) (w : World) :
    Calls Yba.prog 4 #[.bool true, .string s, .int .i32 r] w fun e w' => e = .returned (.bool true) ∧ Below w.heap.size w w' := by
  go_enter Yba.func4, Yba.ntmps4
  go_wp2_with fail
  refine (writeString_fresh w.heap.size true s _ (heap_alloc_new w _) h).mono ?_
  rintro e w1 ⟨rfl, h1, b1⟩
  go_wp2_with fail
  refine (decRune_making w.heap.size _ r hr0 hr1 _ h1 (by rw [Lib.strCells_length]; exact h)).mono ?_
  rintro e w2 ⟨⟨n, rfl⟩, h2, b2⟩
  rw [strCells_append] at h2
  have hz : (⟨(Lib.encodeRune r).toArray⟩ : ByteArray).size ≤ 4 := by
    have := (Lib.runeCells_le r).2
    rw [Lib.runeCells_length] at this
    exact this
  have henc := enc_any r w2
  generalize (⟨(Lib.encodeRune r).toArray⟩ : ByteArray) = en at *
  go_wp2_with fail
  refine henc.mono ?_
  rintro e w3 ⟨rfl, b3⟩
  clear henc
  have h3 := h2.later b3
  go_wp2_with fail
  refine (string_any w.heap.size true _ _ h3).mono ?_
  rintro e w4 ⟨rfl, b4⟩
  go_wp2
  go_ret
  have hs1 := b1.size
  have hs2 := b2.size
  simp at hs1
  exact ⟨by simp, ((((Below.refl _ _).alloc (Nat.le_refl _) _).trans b1).trans b2).trans ((b3.mono (by omega)).trans b4)⟩
end Go.Proofs.Ybulkafpc
