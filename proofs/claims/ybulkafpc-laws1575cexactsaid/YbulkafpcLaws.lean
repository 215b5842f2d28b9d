/-
  LAWS of no one program, for whole structs out of and into a block that is known whole: the world behind a store is a letter.
-/
import Derived.Deep.MidRow
import Derived.Laws.CopyOwn
import Derived.Laws.AppendOwn
import Derived.WalkSmall
import Derived.Deep.Draws
namespace Go.Proofs.Ybulkafpc
open Go Go.RowKit

/-- block g is the row C of type T, nothing frozen -/
def Blk (w : World) (g : Nat) (T : TypeId) (C : List Value) : Prop := w.heap[g]? = some (.cells C.toArray T (0, 0))

theorem Blk.lt {w : World} {g : Nat} {T : TypeId} {C : List Value} (h : Blk w g T C) : g < w.heap.size := by
  rcases Nat.lt_or_ge g w.heap.size with h' | h'
  · exact h'
  · simp [Blk, Array.getElem?_eq_none h'] at h
theorem Blk.cell {w : World} {g : Nat} {T : TypeId} {C : List Value} (h : Blk w g T C) (j : Nat) : w.cell? ⟨g, j, none⟩ = C[j]? := by
  unfold Blk at h
  simp [World.cell?, h]
theorem Blk.frozen {w : World} {g : Nat} {T : TypeId} {C : List Value} (h : Blk w g T C) (j : Nat) : w.frozen? ⟨g, j, none⟩ = false := by
  unfold Blk at h
  simp [World.frozen?, h]
theorem Blk.range {w : World} {g : Nat} {T : TypeId} {C A cs B : List Value} {o : Nat} (h : Blk w g T C) (hC : C = A ++ (cs ++ B)) (hA : A.length = o) : w.rangeAt g o cs := by
  intro j v hj
  rw [h.cell, hC]
  subst hA
  have hl := (List.getElem?_eq_some_iff.1 hj).1
  rw [List.getElem?_append_right (by omega), Nat.add_sub_cancel_left, List.getElem?_append_left hl]
  exact hj
theorem Blk.there {w : World} {g : Nat} {T : TypeId} {C : List Value} (h : Blk w g T C) {o n : Nat} (hn : o + n ≤ C.length) : w.there g o n := by
  intro j hj
  refine ⟨?_, h.frozen _⟩
  rw [h.cell, List.getElem?_eq_getElem (by omega)]
  rfl
theorem Blk.new (w : World) (C : List Value) (T : TypeId) : Blk (w.alloc (.cells C.toArray T)) w.heap.size T C := heap_alloc_new w _
theorem Blk.drewN {w : World} {g : Nat} {T : TypeId} {C : List Value} (h : Blk w g T C) (n : Nat) : Blk (w.drewN n) g T C := h
theorem Blk.old {w w' : World} {g : Nat} {T : TypeId} {C : List Value} (h : Blk w g T C) (b : Below w.heap.size w w') : Blk w' g T C := by
  unfold Blk; rw [b.block g h.lt]; exact h
theorem Blk.other {w w' : World} {g : Nat} {T : TypeId} {C : List Value} {r : Option Nat} (h : Blk w g T C) (b : w.grownBy w' r) (hr : some g ≠ r) : Blk w' g T C := by
  unfold Blk; rw [b.block g h.lt hr]; exact h

theorem setCells_row (g : Nat) (T : TypeId) : ∀ (vs : List Value) (o : Nat) (C : List Value) (w : World), w.heap[g]? = some (.cells C.toArray T (0, 0)) → o + vs.length ≤ C.length →
    w.setCells g o vs = w.setRow g (C.take o ++ vs ++ C.drop (o + vs.length)).toArray
  | [], o, C, w, hg, _ => by
    simp only [World.setCells, List.append_nil, List.length_nil, Nat.add_zero, List.take_append_drop]
    rw [setRow_self w g C.toArray T (0, 0) hg]
  | v :: rest, o, C, w, hg, hl => by
    simp only [World.setCells]
    rw [setCell_eq_setRow w g o C.toArray T (0, 0) v hg]
    have hset : (C.toArray.setIfInBounds o v) = (C.set o v).toArray := by simp
    rw [hset]
    have ih := setCells_row g T rest (o + 1) (C.set o v) (w.setRow g (C.set o v).toArray) (setRow_heap w g _ _ T _ hg) (by simp at hl ⊢; omega)
    rw [ih, setRow_setRow]
    congr 2
    have e := list_seg_step C o v rest (by simp at hl; omega)
    simpa [Nat.add_assoc, Nat.add_comm 1] using e

/-- behind the store: the row spliced, every other block as it was -/
theorem Blk.stored {w : World} {g : Nat} {T : TypeId} {C cs : List Value} {o : Nat} (h : Blk w g T C) (hfit : o + cs.length ≤ C.length) :
    Blk (w.setCells g o cs) g T (splice C o cs) ∧ w.grownBy (w.setCells g o cs) (some g) ∧ (w.setCells g o cs).heap.size = w.heap.size := by
  rw [setCells_row g T cs o C w h hfit]
  refine ⟨?_, ⟨rfl, rfl, rfl, by simp [World.setRow], fun k _ hk => setRow_other w g k _ (fun e => hk (by rw [e]))⟩, by simp [World.setRow]⟩
  unfold Blk
  rw [setRow_heap w g _ _ T _ h]
  simp [splice]

/-- A STORE OF A WHOLE STRUCT INTO A BLOCK THAT IS KNOWN WHOLE -/
theorem wpList_store_blk {P : Program} {ops : Array Oper} {rest : List Oper} {op : Oper} {a : Act} {w : World} {Q : Exit → Act → World → Prop} (hgd : op.guard = none) (ty : TypeId) (x y : Operand) (ho : op.op = .store ty x y)
    (g o : Nat) (cs : List Value) (hx : a.eval x = .pointer (some ⟨g, o, none⟩)) (hy : a.eval y = .agg cs.toArray) (T : TypeId) (C : List Value) (hb : Blk w g T C) (hfit : o + cs.length ≤ C.length)
    (hi : (P.info? ty).map (·.size) = some cs.length) (h1 : ∀ v ∈ cs, v.oneCell' = true)
    (h : ∀ w', Blk w' g T (splice C o cs) → w.grownBy w' (some g) → w'.heap.size = w.heap.size → wpList P ops Q rest (a.put op.dst undef) w') : wpList P ops Q (op :: rest) a w := by
  refine wpList_store_mid hgd ty x y ho g o cs.toArray hx hy (hb.there (by simpa using hfit)) (by simpa using hi) (all_oneCell_toArray h1) ?_
  obtain ⟨s1, s2, s3⟩ := hb.stored hfit
  exact h _ s1 s2 s3
/-- A LOAD OF ONE -/
theorem wpList_load_blk {P : Program} {ops : Array Oper} {rest : List Oper} {op : Oper} {a : Act} {w : World} {Q : Exit → Act → World → Prop} (hgd : op.guard = none) (ty : TypeId) (x : Operand) (ho : op.op = .load ty x)
    (g o : Nat) (hx : a.eval x = .pointer (some ⟨g, o, none⟩)) (cs : List Value) (d : TypeDesc) (hc : w.rangeAt g o cs)
    (hu : P.underlying ty = some d) (hd : d.isRow = true) (hi : (P.info? ty).map (·.size) = some cs.length)
    (h : wpList P ops Q rest (a.put op.dst (.agg cs.toArray)) w) : wpList P ops Q (op :: rest) a w :=
  wpList_load_mid hgd ty x ho g o hx cs d hc hu hd hi h

theorem splice_all {α : Type} (C cs : List α) (h : cs.length = C.length) : splice C 0 cs = cs := by
  simp [splice, h]
theorem splice_tail {α : Type} (A B cs : List α) (o : Nat) (hA : A.length = o) (h : cs.length = B.length) : splice (A ++ B) o cs = A ++ cs := by
  subst hA
  simp [splice, h]
end Go.Proofs.Ybulkafpc
