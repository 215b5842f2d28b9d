/-
  EQUALITY on names, trees and paths, as the model runs it.
-/
import Derived.Test.YbulkafpcTok
import Derived.WalkKit
namespace Go.Proofs.Ybulkafpc
open Go.RowKit
theorem nr0 (d : Nat) (w : World) : (Op.equalIn (d + 3) 51 (.agg (nm 0).toArray) (.agg (nm 0).toArray)).run Yba.prog w = .ok true w := by kernel_rfl
theorem nr1 (d : Nat) (w : World) : (Op.equalIn (d + 3) 51 (.agg (nm 1).toArray) (.agg (nm 1).toArray)).run Yba.prog w = .ok true w := by kernel_rfl
theorem nr2 (d : Nat) (w : World) : (Op.equalIn (d + 3) 51 (.agg (nm 2).toArray) (.agg (nm 2).toArray)).run Yba.prog w = .ok true w := by kernel_rfl
theorem nd01 (d : Nat) (w : World) : (Op.equalIn (d + 3) 51 (.agg (nm 0).toArray) (.agg (nm 1).toArray)).run Yba.prog w = .ok false w := by kernel_rfl
theorem nd02 (d : Nat) (w : World) : (Op.equalIn (d + 3) 51 (.agg (nm 0).toArray) (.agg (nm 2).toArray)).run Yba.prog w = .ok false w := by kernel_rfl
theorem nd10 (d : Nat) (w : World) : (Op.equalIn (d + 3) 51 (.agg (nm 1).toArray) (.agg (nm 0).toArray)).run Yba.prog w = .ok false w := by kernel_rfl
theorem nd12 (d : Nat) (w : World) : (Op.equalIn (d + 3) 51 (.agg (nm 1).toArray) (.agg (nm 2).toArray)).run Yba.prog w = .ok false w := by kernel_rfl
theorem nd20 (d : Nat) (w : World) : (Op.equalIn (d + 3) 51 (.agg (nm 2).toArray) (.agg (nm 0).toArray)).run Yba.prog w = .ok false w := by kernel_rfl
theorem nd21 (d : Nat) (w : World) : (Op.equalIn (d + 3) 51 (.agg (nm 2).toArray) (.agg (nm 1).toArray)).run Yba.prog w = .ok false w := by kernel_rfl
theorem name_eq (k j : Nat) (hk : k < 3) (hj : j < 3) (d : Nat) (w : World) : (Op.equalIn (d + 3) 51 (.agg (nm k).toArray) (.agg (nm j).toArray)).run Yba.prog w = .ok (decide (k = j)) w := by
  rcases (show k = 0 ∨ k = 1 ∨ k = 2 by omega) with rfl | rfl | rfl <;> rcases (show j = 0 ∨ j = 1 ∨ j = 2 by omega) with rfl | rfl | rfl
  · exact nr0 d w
  · exact nd01 d w
  · exact nd02 d w
  · exact nd10 d w
  · exact nr1 d w
  · exact nd12 d w
  · exact nd20 d w
  · exact nd21 d w
  · exact nr2 d w
theorem link_refl (d : Nat) (w : World) :
    (Op.equalIn (d + 4) 54 (.agg ([z8, fl, fl] ++ nm 0 ++ nm 0 ++ [fl, fl]).toArray) (.agg ([z8, fl, fl] ++ nm 0 ++ nm 0 ++ [fl, fl]).toArray)).run Yba.prog w = .ok true w := by kernel_rfl

theorem part51 (cs : Array Value) (o : Nat) (w : World) : (part 51 cs o).run Yba.prog w = .ok (.agg (cs.extract o (o + 18))) w := by kernel_rfl
theorem part54 (cs : Array Value) (o : Nat) (w : World) : (part 54 cs o).run Yba.prog w = .ok (.agg (cs.extract o (o + 41))) w := by kernel_rfl
theorem part58 (cs : Array Value) (o : Nat) (w : World) : (part 58 cs o).run Yba.prog w = .ok (.agg (cs.extract o (o + 29))) w := by kernel_rfl
theorem part1 {t : TypeId} (ht : ∀ w, (isAgg t).run Yba.prog w = .ok false w) {cs : Array Value} {o : Nat} {v : Value} (h : cs[o]? = some v) (w : World) : (part t cs o).run Yba.prog w = .ok v w := by
  simp [part, Sem.run_bind, ht, h]
theorem agg3 (w : World) : (isAgg 3).run Yba.prog w = .ok false w := by kernel_rfl
theorem agg4 (w : World) : (isAgg 4).run Yba.prog w = .ok false w := by kernel_rfl
theorem agg48 (w : World) : (isAgg 48).run Yba.prog w = .ok false w := by kernel_rfl
theorem agg55 (w : World) : (isAgg 55).run Yba.prog w = .ok false w := by kernel_rfl
theorem agg56 (w : World) : (isAgg 56).run Yba.prog w = .ok false w := by kernel_rfl
theorem int_eq {t : TypeId} {k' : IntKind} (ht : Yba.prog.underlying t = some (.int k')) (k : IntKind) (d : Nat) (a b : Int) (w : World) : (Op.equalIn (d + 1) t (.int k a) (.int k b)).run Yba.prog w = .ok (a == b) w := by
  simp [Op.equalIn, run_underlying ht]
theorem bool_eq (d : Nat) (a b : Bool) (w : World) : (Op.equalIn (d + 1) 4 (.bool a) (.bool b)).run Yba.prog w = .ok (a == b) w := by
  simp [Op.equalIn, run_underlying Yba.underlying4]

theorem tree_cell (t : Tree) (j : Nat) : (treeCells t).toArray[j]? = (treeCells t)[j]? := by simp
theorem tc (t : Tree) : (treeCells t)[0]? = some (.int .i64 t.svg) ∧ (treeCells t)[1]? = some (.int .i64 t.mth) ∧ (treeCells t)[20]? = some (.bool t.lost) ∧ (treeCells t)[21]? = some (.int .i64 t.pre) ∧ (treeCells t)[22]? = some (.int .i64 t.listing)
    ∧ (treeCells t)[23]? = some (.bool t.frameset) ∧ (treeCells t)[24]? = some (.int .i64 t.selects) ∧ (treeCells t)[25]? = some (.int .i64 t.selTpl) ∧ (treeCells t)[26]? = some (.int .i64 t.templates) ∧ (treeCells t)[27]? = some (.bool t.unsettled) ∧ (treeCells t)[28]? = some (.int .i64 t.columns) := by
  simp [treeCells, nm_length]
set_option maxRecDepth 100000 in
theorem tree_refl (t : Tree) (hp : t.point < 3) (d : Nat) (w : World) : (Op.equalIn (d + 4) 58 (.agg (treeCells t).toArray) (.agg (treeCells t).toArray)).run Yba.prog w = .ok true w := by
  obtain ⟨c0, c1, c20, c21, c22, c23, c24, c25, c26, c27, c28⟩ := tc t
  have hpt : (treeCells t).toArray.extract 2 (2 + 18) = (nm t.point).toArray := by
    simp [treeCells, nm_length]
  have hs : Yba.prog.stoodInHeld 58 = false := by kernel_rfl
  have p0 := fun w => part1 agg3 (cs := (treeCells t).toArray) (o := 0) (by rw [tree_cell]; exact c0) w
  have p1 := fun w => part1 agg3 (cs := (treeCells t).toArray) (o := 1) (by rw [tree_cell]; exact c1) w
  have p2 := fun w => (part51 (treeCells t).toArray 2 w).trans (by rw [hpt])
  have p20 := fun w => part1 agg4 (cs := (treeCells t).toArray) (o := 20) (by rw [tree_cell]; exact c20) w
  have p21 := fun w => part1 agg3 (cs := (treeCells t).toArray) (o := 21) (by rw [tree_cell]; exact c21) w
  have p22 := fun w => part1 agg3 (cs := (treeCells t).toArray) (o := 22) (by rw [tree_cell]; exact c22) w
  have p23 := fun w => part1 agg4 (cs := (treeCells t).toArray) (o := 23) (by rw [tree_cell]; exact c23) w
  have p24 := fun w => part1 agg3 (cs := (treeCells t).toArray) (o := 24) (by rw [tree_cell]; exact c24) w
  have p25 := fun w => part1 agg3 (cs := (treeCells t).toArray) (o := 25) (by rw [tree_cell]; exact c25) w
  have p26 := fun w => part1 agg3 (cs := (treeCells t).toArray) (o := 26) (by rw [tree_cell]; exact c26) w
  have p27 := fun w => part1 agg4 (cs := (treeCells t).toArray) (o := 27) (by rw [tree_cell]; exact c27) w
  have p28 := fun w => part1 agg3 (cs := (treeCells t).toArray) (o := 28) (by rw [tree_cell]; exact c28) w
  have e3 := fun a w => int_eq Yba.underlying3 .i64 (d + 2) a a w
  have e4 := fun a w => bool_eq (d + 2) a a w
  have e51 := fun w => name_eq t.point t.point hp hp d w
  simp only [beq_self_eq_true] at e3 e4
  rw [Op.equalIn]
  simp [run_underlying Yba.underlying58, p0, p1, p2, p20, p21, p22, p23, p24, p25, p26, p27, p28, e3, e4, e51, hs]

theorem tok_cell (t : Tok) (j : Nat) : (tokCells t).toArray[j]? = (tokCells t)[j]? := by simp
theorem tok_split (t : Tok) : tokCells t = [.int .u8 t.st, z8] ++ nm t.tg ++ [fl, fl] ++ nm 0 ++ ([z8, fl, fl] ++ nm 0 ++ nm 0 ++ [fl, fl]) ++ [z8] ++ nm 0 ++ [fl, fl] ++ nm 0 ++ nm 0 ++ [z8] ++ treeCells t.tree := by
  simp only [tokCells, headCells, midCells, List.append_assoc]
theorem kc (t : Tok) : (tokCells t)[0]? = some (.int .u8 t.st) ∧ (tokCells t)[1]? = some z8 ∧ (tokCells t)[20]? = some fl ∧ (tokCells t)[21]? = some fl ∧ (tokCells t)[81]? = some z8 ∧ (tokCells t)[100]? = some fl ∧ (tokCells t)[101]? = some fl ∧ (tokCells t)[138]? = some z8 := by
  rw [tok_split]
  simp [nm_length, List.getElem?_append]
theorem seg {A B C : List Value} {n m : Nat} (hA : A.length = n) (hB : B.length = m) : (A ++ (B ++ C)).toArray.extract n (n + m) = B.toArray := by
  subst hA; subst hB
  simp
theorem kx (t : Tok) : (tokCells t).toArray.extract 2 (2 + 18) = (nm t.tg).toArray ∧ (tokCells t).toArray.extract 22 (22 + 18) = (nm 0).toArray
    ∧ (tokCells t).toArray.extract 40 (40 + 41) = ([z8, fl, fl] ++ nm 0 ++ nm 0 ++ [fl, fl]).toArray ∧ (tokCells t).toArray.extract 82 (82 + 18) = (nm 0).toArray
    ∧ (tokCells t).toArray.extract 102 (102 + 18) = (nm 0).toArray ∧ (tokCells t).toArray.extract 120 (120 + 18) = (nm 0).toArray ∧ (tokCells t).toArray.extract 139 (139 + 29) = (treeCells t.tree).toArray := by
  rw [tok_split]
  refine ⟨?_, ?_, ?_, ?_, ?_, ?_, ?_⟩
  · simp only [List.append_assoc]; exact seg rfl (nm_length _)
  · rw [show [Value.int .u8 t.st, z8] ++ nm t.tg ++ [fl, fl] ++ nm 0 ++ ([z8, fl, fl] ++ nm 0 ++ nm 0 ++ [fl, fl]) ++ [z8] ++ nm 0 ++ [fl, fl] ++ nm 0 ++ nm 0 ++ [z8] ++ treeCells t.tree = ([Value.int .u8 t.st, z8] ++ nm t.tg ++ [fl, fl]) ++ (nm 0 ++ (([z8, fl, fl] ++ nm 0 ++ nm 0 ++ [fl, fl]) ++ [z8] ++ nm 0 ++ [fl, fl] ++ nm 0 ++ nm 0 ++ [z8] ++ treeCells t.tree)) by simp only [List.append_assoc]]
    exact seg (by simp [nm_length]) (nm_length _)
  · rw [show [Value.int .u8 t.st, z8] ++ nm t.tg ++ [fl, fl] ++ nm 0 ++ ([z8, fl, fl] ++ nm 0 ++ nm 0 ++ [fl, fl]) ++ [z8] ++ nm 0 ++ [fl, fl] ++ nm 0 ++ nm 0 ++ [z8] ++ treeCells t.tree = ([Value.int .u8 t.st, z8] ++ nm t.tg ++ [fl, fl] ++ nm 0) ++ (([z8, fl, fl] ++ nm 0 ++ nm 0 ++ [fl, fl]) ++ ([z8] ++ nm 0 ++ [fl, fl] ++ nm 0 ++ nm 0 ++ [z8] ++ treeCells t.tree)) by simp only [List.append_assoc]]
    exact seg (by simp [nm_length]) (by simp [nm_length])
  · rw [show [Value.int .u8 t.st, z8] ++ nm t.tg ++ [fl, fl] ++ nm 0 ++ ([z8, fl, fl] ++ nm 0 ++ nm 0 ++ [fl, fl]) ++ [z8] ++ nm 0 ++ [fl, fl] ++ nm 0 ++ nm 0 ++ [z8] ++ treeCells t.tree = ([Value.int .u8 t.st, z8] ++ nm t.tg ++ [fl, fl] ++ nm 0 ++ ([z8, fl, fl] ++ nm 0 ++ nm 0 ++ [fl, fl]) ++ [z8]) ++ (nm 0 ++ ([fl, fl] ++ nm 0 ++ nm 0 ++ [z8] ++ treeCells t.tree)) by simp only [List.append_assoc]]
    exact seg (by simp [nm_length]) (nm_length _)
  · rw [show [Value.int .u8 t.st, z8] ++ nm t.tg ++ [fl, fl] ++ nm 0 ++ ([z8, fl, fl] ++ nm 0 ++ nm 0 ++ [fl, fl]) ++ [z8] ++ nm 0 ++ [fl, fl] ++ nm 0 ++ nm 0 ++ [z8] ++ treeCells t.tree = ([Value.int .u8 t.st, z8] ++ nm t.tg ++ [fl, fl] ++ nm 0 ++ ([z8, fl, fl] ++ nm 0 ++ nm 0 ++ [fl, fl]) ++ [z8] ++ nm 0 ++ [fl, fl]) ++ (nm 0 ++ (nm 0 ++ [z8] ++ treeCells t.tree)) by simp only [List.append_assoc]]
    exact seg (by simp [nm_length]) (nm_length _)
  · rw [show [Value.int .u8 t.st, z8] ++ nm t.tg ++ [fl, fl] ++ nm 0 ++ ([z8, fl, fl] ++ nm 0 ++ nm 0 ++ [fl, fl]) ++ [z8] ++ nm 0 ++ [fl, fl] ++ nm 0 ++ nm 0 ++ [z8] ++ treeCells t.tree = ([Value.int .u8 t.st, z8] ++ nm t.tg ++ [fl, fl] ++ nm 0 ++ ([z8, fl, fl] ++ nm 0 ++ nm 0 ++ [fl, fl]) ++ [z8] ++ nm 0 ++ [fl, fl] ++ nm 0) ++ (nm 0 ++ ([z8] ++ treeCells t.tree)) by simp only [List.append_assoc]]
    exact seg (by simp [nm_length]) (nm_length _)
  · rw [show [Value.int .u8 t.st, z8] ++ nm t.tg ++ [fl, fl] ++ nm 0 ++ ([z8, fl, fl] ++ nm 0 ++ nm 0 ++ [fl, fl]) ++ [z8] ++ nm 0 ++ [fl, fl] ++ nm 0 ++ nm 0 ++ [z8] ++ treeCells t.tree = ([Value.int .u8 t.st, z8] ++ nm t.tg ++ [fl, fl] ++ nm 0 ++ ([z8, fl, fl] ++ nm 0 ++ nm 0 ++ [fl, fl]) ++ [z8] ++ nm 0 ++ [fl, fl] ++ nm 0 ++ nm 0 ++ [z8]) ++ (treeCells t.tree ++ []) by simp only [List.append_assoc, List.append_nil]]
    exact seg (by simp [nm_length]) (treeCells_length _)
set_option maxRecDepth 100000 in
set_option maxHeartbeats 1000000 in
/-- '==' on two paths that differ at most in the tag: the tags alone decide -/
theorem tok_eq (s : Int) (g h : Nat) (T : Tree) (hg : g < 3) (hh : h < 3) (hp : T.point < 3) (d : Nat) (w : World) : (Op.equalIn (d + 5) 60 (.agg (tokCells ⟨s, g, T⟩).toArray) (.agg (tokCells ⟨s, h, T⟩).toArray)).run Yba.prog w = .ok (decide (g = h)) w := by
  obtain ⟨c0, c1, c20, c21, c81, c100, c101, c138⟩ := kc ⟨s, g, T⟩
  obtain ⟨b0, b1, b20, b21, b81, b100, b101, b138⟩ := kc ⟨s, h, T⟩
  obtain ⟨x2, x22, x40, x82, x102, x120, x139⟩ := kx ⟨s, g, T⟩
  obtain ⟨y2, y22, y40, y82, y102, y120, y139⟩ := kx ⟨s, h, T⟩
  have hs : Yba.prog.stoodInHeld 60 = false := by kernel_rfl
  have p0 := fun w => part1 agg48 (cs := (tokCells ⟨s, g, T⟩).toArray) (o := 0) (by rw [tok_cell]; exact c0) w
  have p1 := fun w => part1 agg48 (cs := (tokCells ⟨s, g, T⟩).toArray) (o := 1) (by rw [tok_cell]; exact c1) w
  have p2 := fun w => (part51 (tokCells ⟨s, g, T⟩).toArray 2 w).trans (by rw [x2])
  have p20 := fun w => part1 agg4 (cs := (tokCells ⟨s, g, T⟩).toArray) (o := 20) (by rw [tok_cell]; exact c20) w
  have p21 := fun w => part1 agg4 (cs := (tokCells ⟨s, g, T⟩).toArray) (o := 21) (by rw [tok_cell]; exact c21) w
  have p22 := fun w => (part51 (tokCells ⟨s, g, T⟩).toArray 22 w).trans (by rw [x22])
  have p40 := fun w => (part54 (tokCells ⟨s, g, T⟩).toArray 40 w).trans (by rw [x40])
  have p81 := fun w => part1 agg55 (cs := (tokCells ⟨s, g, T⟩).toArray) (o := 81) (by rw [tok_cell]; exact c81) w
  have p82 := fun w => (part51 (tokCells ⟨s, g, T⟩).toArray 82 w).trans (by rw [x82])
  have p100 := fun w => part1 agg4 (cs := (tokCells ⟨s, g, T⟩).toArray) (o := 100) (by rw [tok_cell]; exact c100) w
  have p101 := fun w => part1 agg4 (cs := (tokCells ⟨s, g, T⟩).toArray) (o := 101) (by rw [tok_cell]; exact c101) w
  have p102 := fun w => (part51 (tokCells ⟨s, g, T⟩).toArray 102 w).trans (by rw [x102])
  have p120 := fun w => (part51 (tokCells ⟨s, g, T⟩).toArray 120 w).trans (by rw [x120])
  have p138 := fun w => part1 agg56 (cs := (tokCells ⟨s, g, T⟩).toArray) (o := 138) (by rw [tok_cell]; exact c138) w
  have p139 := fun w => (part58 (tokCells ⟨s, g, T⟩).toArray 139 w).trans (by rw [x139])
  have q0 := fun w => part1 agg48 (cs := (tokCells ⟨s, h, T⟩).toArray) (o := 0) (by rw [tok_cell]; exact b0) w
  have q1 := fun w => part1 agg48 (cs := (tokCells ⟨s, h, T⟩).toArray) (o := 1) (by rw [tok_cell]; exact b1) w
  have q2 := fun w => (part51 (tokCells ⟨s, h, T⟩).toArray 2 w).trans (by rw [y2])
  have q20 := fun w => part1 agg4 (cs := (tokCells ⟨s, h, T⟩).toArray) (o := 20) (by rw [tok_cell]; exact b20) w
  have q21 := fun w => part1 agg4 (cs := (tokCells ⟨s, h, T⟩).toArray) (o := 21) (by rw [tok_cell]; exact b21) w
  have q22 := fun w => (part51 (tokCells ⟨s, h, T⟩).toArray 22 w).trans (by rw [y22])
  have q40 := fun w => (part54 (tokCells ⟨s, h, T⟩).toArray 40 w).trans (by rw [y40])
  have q81 := fun w => part1 agg55 (cs := (tokCells ⟨s, h, T⟩).toArray) (o := 81) (by rw [tok_cell]; exact b81) w
  have q82 := fun w => (part51 (tokCells ⟨s, h, T⟩).toArray 82 w).trans (by rw [y82])
  have q100 := fun w => part1 agg4 (cs := (tokCells ⟨s, h, T⟩).toArray) (o := 100) (by rw [tok_cell]; exact b100) w
  have q101 := fun w => part1 agg4 (cs := (tokCells ⟨s, h, T⟩).toArray) (o := 101) (by rw [tok_cell]; exact b101) w
  have q102 := fun w => (part51 (tokCells ⟨s, h, T⟩).toArray 102 w).trans (by rw [y102])
  have q120 := fun w => (part51 (tokCells ⟨s, h, T⟩).toArray 120 w).trans (by rw [y120])
  have q138 := fun w => part1 agg56 (cs := (tokCells ⟨s, h, T⟩).toArray) (o := 138) (by rw [tok_cell]; exact b138) w
  have q139 := fun w => (part58 (tokCells ⟨s, h, T⟩).toArray 139 w).trans (by rw [y139])
  have e48 := fun a w => int_eq Yba.underlying48 .u8 (d + 3) a a w
  have e55 := fun w => int_eq Yba.underlying55 .u8 (d + 3) 0 0 w
  have e56 := fun w => int_eq Yba.underlying56 .u8 (d + 3) 0 0 w
  have e4 := fun w => bool_eq (d + 3) false false w
  have e51 := fun w => name_eq g h hg hh (d + 1) w
  have e51z := fun w => name_eq 0 0 (by decide) (by decide) (d + 1) w
  have e54 := fun w => link_refl d w
  have e58 := fun w => tree_refl T hp d w
  simp only [beq_self_eq_true] at e48 e55 e56 e4
  generalize ([z8, fl, fl] ++ nm 0 ++ nm 0 ++ [fl, fl]).toArray = LK at *
  simp only [z8, fl] at *
  rw [Op.equalIn]
  by_cases hgh : g = h
  · subst hgh
    simp only [decide_true] at e51 e51z
    simp [run_underlying Yba.underlying60, p0, p1, p2, p20, p21, p22, p40, p81, p82, p100, p101, p102, p120, p138, p139, e48, e55, e56, e4, e51, e51z, e54, e58, hs]
  · simp only [hgh, decide_false] at e51
    simp [run_underlying Yba.underlying60, p0, p1, p2, q0, q1, q2, e48, e51, hs, hgh]
end Go.Proofs.Ybulkafpc
