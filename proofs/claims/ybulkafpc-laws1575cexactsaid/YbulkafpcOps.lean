/-
  THE OPERATIONS on whole paths: zero values, sizes, loads, stores, '==' and '!=' as equations of their runs.
-/
import Derived.Test.YbulkafpcEq
import Derived.Test.YbulkafpcLaws
import Derived.WalkKit
import Derived.ProofKit
import Derived.WalkSpells
import Derived.Lib.Builder
namespace Go.Proofs.Ybulkafpc
open Go.RowKit

def Stopped (p : Prop) : Prop := p
theorem Stopped.out {p : Prop} (h : Stopped p) : p := h
def zt : Tok := ⟨0, 0, ⟨0, 0, 0, false, 0, 0, false, 0, 0, 0, false, 0⟩⟩
theorem zv60 (W : World) : (zeroValue 60).run Yba.prog W = .ok (.agg (tokCells zt).toArray) W := by kernel_rfl
theorem size60 (t : Tok) : (Yba.prog.info? 60).map (·.size) = some (tokCells t).length := by
  rw [tokCells_length]; kernel_rfl
theorem size58 (t : Tree) : (Yba.prog.info? 58).map (·.size) = some (treeCells t).length := by
  rw [treeCells_length]; kernel_rfl
theorem nm_one (k : Nat) : ∀ v ∈ nm k, v.oneCell' = true := by
  unfold nm; split <;> (try split) <;> (intro v hv; simp [z8, fl] at hv; rcases hv with rfl | rfl | rfl | rfl | rfl | rfl | rfl | rfl | rfl <;> rfl)
theorem one_append {A B : List Value} (ha : ∀ v ∈ A, v.oneCell' = true) (hb : ∀ v ∈ B, v.oneCell' = true) : ∀ v ∈ A ++ B, v.oneCell' = true := by
  intro v hv
  rcases List.mem_append.1 hv with h | h
  · exact ha v h
  · exact hb v h
theorem one_nil : ∀ v ∈ ([] : List Value), v.oneCell' = true := fun v hv => by cases hv
theorem one_cons {x : Value} {A : List Value} (hx : x.oneCell' = true) (ha : ∀ v ∈ A, v.oneCell' = true) : ∀ v ∈ x :: A, v.oneCell' = true := by
  intro v hv
  rcases List.mem_cons.1 hv with h | h
  · subst h; exact hx
  · exact ha v h
theorem tree_one (t : Tree) : ∀ v ∈ treeCells t, v.oneCell' = true := by
  unfold treeCells
  repeat (first | exact nm_one _ | exact one_nil | refine one_append ?_ ?_ | refine one_cons rfl ?_)
theorem tok_one (t : Tok) : ∀ v ∈ tokCells t, v.oneCell' = true := by
  rw [tok_split]
  repeat (first | exact nm_one _ | exact tree_one _ | exact one_nil | refine one_append ?_ ?_ | refine one_cons rfl ?_)
theorem range_cell {w : World} {b o : Nat} {cs : List Value} (h : w.rangeAt b o cs) (j : Nat) {v : Value} (hj : cs[j]? = some v) : w.cell? ⟨b, o + j, none⟩ = some v := h j v hj
theorem range_old {w w' : World} {b o : Nat} {cs : List Value} (h : w.rangeAt b o cs) (hb : Below w.heap.size w w') : w'.rangeAt b o cs := fun j v hj => cell_later hb (h j v hj)

theorem guard60 (x y : Operand) (u v : Array Value) (W : World) : (eqGuard .eql 60 x y (.agg u) (.agg v)).run Yba.prog W = .ok () W := by kernel_rfl
theorem guard60n (x y : Operand) (u v : Array Value) (W : World) : (eqGuard .neq 60 x y (.agg u) (.agg v)).run Yba.prog W = .ok () W := by kernel_rfl
theorem guard51n (x y : Operand) (u v : Array Value) (W : World) : (eqGuard .neq 51 x y (.agg u) (.agg v)).run Yba.prog W = .ok () W := by kernel_rfl
theorem eql60 (s : Int) (g h : Nat) (T : Tree) (hg : g < 3) (hh : h < 3) (hp : T.point < 3) (w : World) : (binOp .eql 60 (.agg (tokCells ⟨s, g, T⟩).toArray) (.agg (tokCells ⟨s, h, T⟩).toArray)).run Yba.prog w = .ok (.bool (decide (g = h))) w := by
  simp only [binOp]
  simp only [Op.equal, Op.maxDepth, Sem.run_bind, tok_eq s g h T hg hh hp 9995 w, Result.andThen_ok]
  rfl
theorem neq60 (t : Tok) (hg : t.tg < 3) (hp : t.tree.point < 3) (w : World) : (binOp .neq 60 (.agg (tokCells t).toArray) (.agg (tokCells t).toArray)).run Yba.prog w = .ok (.bool false) w := by
  have := tok_eq t.st t.tg t.tg t.tree hg hg hp 9995 w
  simp only [binOp]
  simp only [Op.equal, Op.maxDepth, Sem.run_bind, this, Result.andThen_ok]
  simp
theorem neq51 (k j : Nat) (hk : k < 3) (hj : j < 3) (w : World) : (binOp .neq 51 (.agg (nm k).toArray) (.agg (nm j).toArray)).run Yba.prog w = .ok (.bool (decide (k ≠ j))) w := by
  simp only [binOp]
  simp only [Op.equal, Op.maxDepth, Sem.run_bind, name_eq k j hk hj 9997 w, Result.andThen_ok]
  simp
/-- '==', '!=' by the equation of its run -/
theorem wpList_binOp_by {P : Program} {ops : Array Oper} {rest : List Oper} {op : Oper} {a : Act} {w : World} {Q : Exit → Act → World → Prop} (hgd : op.guard = none) (b : BinOp) (ty : TypeId) (x y : Operand) (rt : TypeId) (ho : op.op = .binOp b ty x y rt)
    (vx vy r : Value) (hx : a.eval x = vx) (hy : a.eval y = vy) (hg : (eqGuard b ty x y vx vy).run P w = .ok () w) (hr : (binOp b ty vx vy).run P w = .ok r w)
    (h : wpList P ops Q rest (a.put op.dst r) w) : wpList P ops Q (op :: rest) a w := by
  refine wpList_plain hgd fun K hK => ?_
  unfold Oper.wp execOp
  simp only [ho, hx, hy, Sem.run_bind, hg, hr, Result.andThen_ok, Sem.run_pure]
  exact hK _ _ h
end Go.Proofs.Ybulkafpc
