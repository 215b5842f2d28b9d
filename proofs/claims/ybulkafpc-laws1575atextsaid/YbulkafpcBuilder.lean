/-
  CONTRACTS of the builder that lies in the decoder (strings.Builder at offset 14): copyCheck (16), WriteString (7), WriteRune (17), String (11), RuneLen (18), (*decoder).writeRune (8): turned to this program after the texts of the shelf (Derived/Shelf/Strings/Builder1.lean).
-/
import Derived.Test.YbulkafpcRune
import Derived.WalkKit
import Derived.ProofKit
import Derived.WalkSpells

import Derived.Lib.Strings
import Derived.Lib.Slices
import Derived.Lib.Walk
import Derived.Lib.Builder
import Derived.Lib.AppendStr
import Derived.Lib.UnsafeStr
import Derived.Lib.RuneBytes
import Derived.Laws.Externs
import Derived.Laws.IdiomCopy
import Derived.Laws.BitsLemmas
namespace Go.Proofs.Ybulkafpc
open Go.RowKit

/-- the decoder's block: sixteen cells; the builder is the last two -/
def dec (mk : Bool) (p v : Value) : Array Value := #[.pointer none, .slice none 0 0, .bool mk, .int .i64 0, .int .i64 0, .int .i64 0, .int .i64 0, .slice none 0 0, .int .i64 0, .int .i64 0, .int .i64 0, .int .i64 0, .slice none 0 0, .slice none 0 0, p, v]

theorem info30 : (Yba.prog.info? 30).map (·.size) = some 2 := by kernel_rfl
theorem lies14 : liesAt Yba.prog Yba.prog.depth 32 (16 / Yba.prog.cellsOf 32) 14 30 1 = true := by kernel_rfl

/-- the builder's address, turned to a bare pointer and back: it stays -/
theorem conv_out (b : Nat) (w : World) (hsh : w.shape? b = some (32, 16)) : (convert 28 71 (.pointer (some ⟨b, 14, none⟩))).run Yba.prog w = .ok (.pointer (some ⟨b, 14, none⟩)) w := by
  obtain ⟨j, hj, hjs⟩ := Option.map_eq_some_iff.1 info30
  simp [convert, run_underlying Yba.underlying28, run_underlying Yba.underlying71, Conv.unsafePointer, Conv.seenAt, viewAt, cellsIn, hsh, sizeOf, typeInfo, hj, hjs]
theorem conv_in (b : Nat) (w : World) (hsh : w.shape? b = some (32, 16)) : (convert 71 28 (.pointer (some ⟨b, 14, none⟩))).run Yba.prog w = .ok (.pointer (some ⟨b, 14, none⟩)) w := by
  obtain ⟨j, hj, hjs⟩ := Option.map_eq_some_iff.1 info30
  simp [convert, run_underlying Yba.underlying28, run_underlying Yba.underlying71, Conv.unsafePointer, Conv.seenAt, viewAt, variablesAt, hsh, lies14, sizeOf, typeInfo, hj]

set_option maxHeartbeats 1000000 in
set_option maxRecDepth 100000 in
theorem copyCheck_fresh (b : Nat) (mk : Bool) (v : Value) (w : World) (hb : w.heap[b]? = some (.cells (dec mk (.pointer none) v) 32 (0, 0))) :
    Calls Yba.prog 16 #[.pointer (some ⟨b, 14, none⟩)] w fun e w' => e = .returned (.tuple #[]) ∧ w' = w.setCell ⟨b, 14, none⟩ (.pointer (some ⟨b, 14, none⟩)) := by
  have h0 : w.cell? ⟨b, 14, none⟩ = some (.pointer none) := by rw [Lib.cell_of_heap hb]; rfl
  have hsh : w.shape? b = some (32, 16) := by simp [World.shape?, hb, dec]
  have hfz : w.frozen? ⟨b, 14, none⟩ = false := Lib.frozen_of_heap hb 14
  clear hb
  go_enter Yba.func16, Yba.ntmps16
  go_wp2_with fail
  rw [conv_out b w hsh]
  simp only [Result.andThen]
  rw [Oper.upon_value]
  go_wp2_with fail
  rw [run_callFunc_extern Yba.func23 (by kernel_rfl) (by kernel_rfl) (by kernel_rfl) (e := Extern.AbiNoEscape.same) (by kernel_rfl)]
  rw [Lib.run_noEscape]
  simp only [Result.andThen]
  rw [Oper.upon_value]
  go_wp2_with fail
  rw [conv_in b w hsh]
  simp only [Result.andThen]
  rw [Oper.upon_value]
  go_wp2
  go_end0
  exact ⟨rfl, rfl⟩

set_option maxHeartbeats 1000000 in
set_option maxRecDepth 100000 in
theorem copyCheck_used (b : Nat) (w : World) (h0 : w.cell? ⟨b, 14, none⟩ = some (.pointer (some ⟨b, 14, none⟩))) :
    Calls Yba.prog 16 #[.pointer (some ⟨b, 14, none⟩)] w fun e w' => e = .returned (.tuple #[]) ∧ w' = w := by
  obtain ⟨j, hj, _⟩ := Option.map_eq_some_iff.1 info30
  go_enter Yba.func16, Yba.ntmps16
  go_wp2
  rw [Lib.run_neq_ptr_same w _ Yba.underlying28 hj]
  go_wp2
  go_end0
  exact ⟨rfl, rfl⟩

theorem dec14 (mk : Bool) (p v q : Value) : (dec mk p v).setIfInBounds 14 q = dec mk q v := rfl
theorem dec15 (mk : Bool) (p v q : Value) : (dec mk p v).setIfInBounds 15 q = dec mk p q := rfl
theorem put14 {w : World} {b : Nat} {mk : Bool} {p v : Value} (q : Value) (hb : w.heap[b]? = some (.cells (dec mk p v) 32 (0, 0))) : (w.setCell ⟨b, 14, none⟩ q).heap[b]? = some (.cells (dec mk q v) 32 (0, 0)) := by
  simp [World.setCell, Array.getElem?_modify, hb, dec]
theorem put15 {w : World} {b : Nat} {mk : Bool} {p v : Value} (q : Value) (hb : w.heap[b]? = some (.cells (dec mk p v) 32 (0, 0))) : (w.setCell ⟨b, 15, none⟩ q).heap[b]? = some (.cells (dec mk p q) 32 (0, 0)) := by
  simp [World.setCell, Array.getElem?_modify, hb, dec]
theorem lt_of_heap {w : World} {b : Nat} {o : Obj} (hb : w.heap[b]? = some o) : b < w.heap.size := by
  rcases Nat.lt_or_ge b w.heap.size with h' | h'
  · exact h'
  · simp [Array.getElem?_eq_none h'] at hb

/-- what is known of the decoder behind a write: its block, its buffer's row, that nothing below it has turned -/
def Holds (b : Nat) (mk : Bool) (bs : List Value) (w : World) : Prop :=
  ∃ v, w.heap[b]? = some (.cells (dec mk (.pointer (some ⟨b, 14, none⟩)) v) 32 (0, 0)) ∧ w.ownsRow b 5 1 v bs.length bs ∧ (bs = [] → v = .slice none 0 0)

theorem empty_of {s : ByteArray} (h : Lib.strCells s = []) : s = ByteArray.empty := by
  have := congrArg List.length h
  rw [Lib.strCells_length] at this
  exact ByteArray.size_eq_zero_iff.1 this

set_option maxHeartbeats 2000000 in
set_option maxRecDepth 100000 in
theorem writeString_fresh (b : Nat) (mk : Bool) (s : ByteArray) (w : World) (hb : w.heap[b]? = some (.cells (dec mk (.pointer none) (.slice none 0 0)) 32 (0, 0))) (hs : s.size ≤ 1024) :
    Calls Yba.prog 7 #[.pointer (some ⟨b, 14, none⟩), .string s] w fun e w' => e = .returned (.tuple #[.int .i64 s.size, .nilIface]) ∧ Holds b mk (Lib.strCells s) w' ∧ Below b w w' := by
  obtain ⟨i0, hi, hz0, hz1, hz2⟩ := info_parts infoByte
  have hlt := lt_of_heap hb
  have hb1 := put14 (.pointer (some ⟨b, 14, none⟩)) hb
  generalize hw1 : w.setCell ⟨b, 14, none⟩ (.pointer (some ⟨b, 14, none⟩)) = w1 at hb1
  have hsz : w1.heap.size = w.heap.size := by rw [← hw1]; simp [World.setCell]
  have hbel : Below b w w1 := by rw [← hw1]; exact (Below.refl b w).setCell (p := ⟨b, 14, none⟩) (Nat.le_refl _) _
  have c14 : w1.cell? ⟨b, 14, none⟩ = some (.pointer (some ⟨b, 14, none⟩)) := by rw [Lib.cell_of_heap hb1]; rfl
  have c15 : w1.cell? ⟨b, 15, none⟩ = some (.slice none 0 0) := by rw [Lib.cell_of_heap hb1]; rfl
  have hcc := copyCheck_fresh b mk (.slice none 0 0) w hb
  rw [hw1] at hcc
  have hown : w1.ownsRow b 5 1 (.slice none 0 0) 0 [] := World.ownsRow_nil _ _ _ _
  clear hw1 hb
  go_enter Yba.func7, Yba.ntmps7
  go_wp2_with (go_at_call 16; refine hcc.mono ?_)
  rintro e w' ⟨rfl, rfl⟩
  go_wp2_with (at_builtin; refine Lib.wpList_append_own_string _ rfl _ _ 24 9 rfl b 5 i0 Yba.underlying24 Yba.underlying9 hi hz0 hz1 hz2 _ _ _ rfl hown s rfl ?c3 ?c4 ?c5 ?_)
  case c3 => unfold maxLen; omega
  case c4 => omega
  case c5 => omega
  intro v' w2 hown' hgrow hnil
  have hnil := hnil.2
  have hb2 : w2.heap[b]? = some (.cells (dec mk (.pointer (some ⟨b, 14, none⟩)) (.slice none 0 0)) 32 (0, 0)) := by
    rw [hgrow.block b (by omega) (by simp [Value.ownBlock])]
    exact hb1
  have d15 : w2.cell? ⟨b, 15, none⟩ = some (.slice none 0 0) := by rw [Lib.cell_of_heap hb2]; rfl
  have f15 : w2.frozen? ⟨b, 15, none⟩ = false := Lib.frozen_of_heap hb2 15
  obtain ⟨ao, n', cap, rfl⟩ : ∃ ao n' cap, v' = .slice ao n' cap := by
    rcases hown'.2 with ⟨hv, _⟩ | ⟨g, cap, cur, hv, _⟩
    · exact ⟨_, _, _, hv⟩
    · exact ⟨_, _, _, hv⟩
  have hnil : Hid (s = ByteArray.empty → _) := hnil
  go_wp2
  go_ret2
  refine ⟨rfl, ⟨.slice ao n' cap, put15 _ hb2, ?_, fun h => hnil.out (empty_of h)⟩, ?_⟩
  · have hne := Lib.ownBlock_ne hown' hb2 (by decide)
    rw [Lib.strCells_length]
    exact hown'.kept (row := some b) ⟨rfl, rfl, rfl, by simp [World.setCell], fun k _ hk => Below.heap_setCell _ _ _ _ (fun e => hk (by simp [e]))⟩ (Or.inr hne)
  · exact (hbel.grown hgrow (by omega) (fun k hk => by simp [Value.ownBlock] at hk)).setCell (p := ⟨b, 15, none⟩) (Nat.le_refl _) _

set_option maxHeartbeats 2000000 in
set_option maxRecDepth 100000 in
theorem writeRune_b (b : Nat) (mk : Bool) (bs : List Value) (r : Int) (hr0 : -2147483648 ≤ r) (hr1 : r ≤ 2147483647) (w : World) (h : Holds b mk bs w) (hs : bs.length ≤ 1024) :
    Calls Yba.prog 17 #[.pointer (some ⟨b, 14, none⟩), .int .i32 r] w fun e w' => (∃ n : Int, e = .returned (.tuple #[.int .i64 n, .nilIface])) ∧ Holds b mk (bs ++ Lib.runeCells r) w' ∧ Below b w w' := by
  obtain ⟨v, hb, hown, _⟩ := h
  have hlt := lt_of_heap hb
  have c14 : w.cell? ⟨b, 14, none⟩ = some (.pointer (some ⟨b, 14, none⟩)) := by rw [Lib.cell_of_heap hb]; rfl
  have c15 : w.cell? ⟨b, 15, none⟩ = some v := by rw [Lib.cell_of_heap hb]; rfl
  have hne := Lib.ownBlock_ne hown hb (by decide)
  have hrl := Lib.runeCells_le r
  obtain ⟨ao, cap, rfl⟩ : ∃ ao cap, v = .slice ao bs.length cap := by
    rcases hown.2 with ⟨hv, h0⟩ | ⟨g, cap, cur, hv, _⟩
    · exact ⟨none, 0, by rw [hv, h0]⟩
    · exact ⟨_, _, hv⟩
  go_enter Yba.func17, Yba.ntmps17
  go_wp2_with (go_at_call 16; refine (copyCheck_used b w c14).mono ?_)
  rintro e w' ⟨rfl, rfl⟩
  go_wp2_with (go_at_call 24; refine (appendRune_own b _ _ bs r hr0 hr1 _ hown (by omega) (by omega)).mono ?_)
  rintro e w2 ⟨v', rfl, hown', o, hgrow⟩
  have hb2 : w2.heap[b]? = some (.cells (dec mk (.pointer (some ⟨b, 14, none⟩)) (.slice ao bs.length cap)) 32 (0, 0)) := by
    rw [hgrow.block b (by simp; omega) (fun e => hne e.symm), Lib.alloc_old w' _ b hlt]
    exact hb
  have d15 : w2.cell? ⟨b, 15, none⟩ = some (.slice ao bs.length cap) := by rw [Lib.cell_of_heap hb2]; rfl
  have f15 : w2.frozen? ⟨b, 15, none⟩ = false := Lib.frozen_of_heap hb2 15
  obtain ⟨ao', cap', rfl⟩ : ∃ ao' cap', v' = .slice ao' (bs.length + (Lib.runeCells r).length) cap' := by
    rcases hown'.2 with ⟨hv, h0⟩ | ⟨g, cap, cur, hv, _⟩
    · omega
    · exact ⟨_, _, hv⟩
  generalize hRL : (Lib.runeCells r).length = R at *
  go_wp2
  go_ret2
  refine ⟨⟨_, rfl⟩, ⟨.slice ao' (bs.length + R) cap', put15 _ hb2, ?_, fun h => ?_⟩, ?_⟩
  · have hne := Lib.ownBlock_ne hown' hb2 (by decide)
    rw [List.length_append, hRL]
    exact hown'.kept (row := some b) ⟨rfl, rfl, rfl, by simp [World.setCell], fun k _ hk => Below.heap_setCell _ _ _ _ (fun e => hk (by simp [e]))⟩ (Or.inr hne)
  · exact absurd (List.append_eq_nil_iff.1 h).2 (fun h2 => by rw [h2] at hRL; simp at hRL; omega)
  · exact (((Below.refl b w').alloc (by omega) _).grown hgrow (by simp; omega) (fun k hk => (hown.lt k hk).1)).setCell (p := ⟨b, 15, none⟩) (Nat.le_refl _) _

set_option maxHeartbeats 2000000 in
set_option maxRecDepth 100000 in
theorem runeLen_any (r : Int) (w : World) :
    Calls Yba.prog 18 #[.int .i32 r] w fun e w' => (∃ n : Int, e = .returned (.int .i64 n)) ∧ w' = w := by
  go_enter Yba.func18, Yba.ntmps18
  go_wp2
  all_goals
    go_ret
    exact ⟨⟨_, rfl⟩, rfl⟩

/-- (*decoder).writeRune: when making, the rune's UTF-8 is laid behind what the builder holds -/
theorem decRune_making (b : Nat) (bs : List Value) (r : Int) (hr0 : -2147483648 ≤ r) (hr1 : r ≤ 2147483647) (w : World) (h : Holds b true bs w) (hs : bs.length ≤ 1024) :
    Calls Yba.prog 8 #[.pointer (some ⟨b, 0, none⟩), .int .i32 r] w fun e w' => (∃ n : Int, e = .returned (.int .i64 n)) ∧ Holds b true (bs ++ Lib.runeCells r) w' ∧ Below b w w' := by
  have hwr := writeRune_b b true bs r hr0 hr1 w h hs
  obtain ⟨v, hb, hown, _⟩ := h
  have c2 : w.cell? ⟨b, 2, none⟩ = some (.bool true) := by rw [Lib.cell_of_heap hb]; rfl
  clear hb hown
  go_enter Yba.func8, Yba.ntmps8
  go_wp2_with (go_at_call 17; refine hwr.mono ?_)
  rintro e w2 ⟨⟨n, rfl⟩, h2, hbel⟩
  clear hwr
  go_wp2_with (go_at_call 18; refine (runeLen_any r _).mono ?_)
  rintro e w' ⟨⟨m, rfl⟩, rfl⟩
  go_wp2
  go_ret
  exact ⟨⟨_, rfl⟩, h2, hbel⟩
/-- .. when only checking, nothing turns -/
theorem decRune_checking (b : Nat) (bs : List Value) (r : Int) (w : World) (h : Holds b false bs w) :
    Calls Yba.prog 8 #[.pointer (some ⟨b, 0, none⟩), .int .i32 r] w fun e w' => (∃ n : Int, e = .returned (.int .i64 n)) ∧ w' = w := by
  obtain ⟨v, hb, hown, _⟩ := h
  have c2 : w.cell? ⟨b, 2, none⟩ = some (.bool false) := by rw [Lib.cell_of_heap hb]; rfl
  clear hb hown
  go_enter Yba.func8, Yba.ntmps8
  go_wp2_with (go_at_call 18; refine (runeLen_any r _).mono ?_)
  rintro e w' ⟨⟨m, rfl⟩, rfl⟩
  go_wp2
  go_ret
  exact ⟨⟨_, rfl⟩, rfl⟩

set_option maxHeartbeats 1000000 in
set_option maxRecDepth 100000 in
theorem string_some (b : Nat) (mk : Bool) (l : List UInt8) (w : World) (h : Holds b mk (Lib.byteCells l) w) (h0 : l ≠ []) :
    Calls Yba.prog 11 #[.pointer (some ⟨b, 14, none⟩)] w fun e w' => e = .returned (.string ⟨l.toArray⟩) ∧ Below b w w' := by
  obtain ⟨v, hbk, hown, _⟩ := h
  have hl0 : l.length ≠ 0 := by simpa using h0
  rw [Lib.byteCells_length] at hown
  obtain ⟨g, cap, cur, rfl, hbg, hg, hnc, hcm, hcs, htake⟩ : ∃ g cap cur, v = .slice (some ⟨g, 0, none⟩) l.length cap ∧ b ≤ g ∧ w.heap[g]? = some (.cells cur 5 (0, 0)) ∧ l.length ≤ cap ∧ cap ≤ maxLen ∧ cur.size = cap * 1 ∧ cur.toList.take (l.length * 1) = Lib.byteCells l := by
    rcases hown.2 with ⟨_, hz⟩ | ⟨g, cap, cur, hv, r⟩
    · exact absurd hz hl0
    · exact ⟨g, cap, cur, hv, r⟩
  have c15 : w.drew.cell? ⟨b, 15, none⟩ = some (.slice (some ⟨g, 0, none⟩) l.length cap) := by
    have : w.drew.heap[b]? = some (.cells (dec mk (.pointer (some ⟨b, 14, none⟩)) (.slice (some ⟨g, 0, none⟩) l.length cap)) 32 (0, 0)) := hbk
    rw [Lib.cell_of_heap this]; rfl
  have hSD : (Builtin.unsafeSliceData_ #[24] 65 #[.slice (some ⟨g, 0, none⟩) l.length cap]).run Yba.prog w.drew = .ok (.pointer (some ⟨g, 0, none⟩)) w.drew :=
    Lib.run_unsafeSliceData_row _ _ _ _ _ _ (by omega)
  have hUS : (Builtin.unsafeString_ #[65, 3] 9 #[.pointer (some ⟨g, 0, none⟩), .int .i64 l.length]).run Yba.prog w.drew = .ok (.string ⟨l.toArray⟩) (w.drew.freeze ⟨g, 0, none⟩ l.length) := by
    refine Lib.run_unsafeString_row w.drew 65 3 9 5 Yba.underlying65 (by kernel_rfl) g cur.size (by have hg' : w.drew.heap[g]? = some (.cells cur 5 (0, 0)) := hg; simp [World.shape?, hg']) l h0 (by omega) (by unfold maxLen at hcm; omega) ?_
    intro j x hx
    have := hown.cells (g := g) rfl j (.int .u8 x.toNat) (by simp [Lib.byteCells, hx])
    exact this
  go_enter Yba.func11, Yba.ntmps11
  go_wp2
  go_region
  all_goals (go_wp2; go_ret; exact ⟨rfl, Lib.below_freeze (Below.drew (Below.refl b w)) (p := ⟨g, 0, none⟩) hbg _⟩)

set_option maxHeartbeats 1000000 in
set_option maxRecDepth 100000 in
theorem string_none (b : Nat) (mk : Bool) (w : World) (h : Holds b mk [] w) :
    Calls Yba.prog 11 #[.pointer (some ⟨b, 14, none⟩)] w fun e w' => e = .returned (.string ByteArray.empty) ∧ Below b w w' := by
  obtain ⟨v, hbk, hown, hn⟩ := h
  obtain rfl := hn rfl
  have hUS := fun W q => Lib.run_unsafeString_none (P := Yba.prog) W 65 3 9 q
  have c15 : w.drew.cell? ⟨b, 15, none⟩ = some (.slice none 0 0) := by
    have : w.drew.heap[b]? = some (.cells (dec mk (.pointer (some ⟨b, 14, none⟩)) (.slice none 0 0)) 32 (0, 0)) := hbk
    rw [Lib.cell_of_heap this]; rfl
  have hSD : (Builtin.unsafeSliceData_ #[24] 65 #[.slice none 0 0]).run Yba.prog w.drew = .ok (.pointer none) w.drew := rfl
  clear hbk hown hn
  go_enter Yba.func11, Yba.ntmps11
  go_wp2
  go_region
  all_goals (go_wp2; go_ret; exact ⟨rfl, Below.drew (Below.refl b w)⟩)
end Go.Proofs.Ybulkafpc
