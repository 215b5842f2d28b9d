/-
  CONTRACT of (*tokenizer).sameState (20).
-/
import Derived.Test.YbulkafpcOps
import Derived.Deep.QuietTactic
import Derived.BigQuiet
namespace Go.Proofs.Ybulkafpc
open Go.RowKit

set_option maxHeartbeats 400000 in
set_option maxRecDepth 10000 in
theorem same_tag (b o : Nat) (t u : Tok) (ht : t.tg < 3) (hu : u.tg < 3) (hp : u.tree.point < 3) (w : World) (hr : w.rangeAt b o (tokCells t)) (hne : (t.st != u.st) = false) :
    Calls Yba.prog 20 #[.pointer (some ⟨b, o, none⟩), .agg (tokCells u).toArray] w fun e w' => e = .returned (.bool (decide (t.tg = u.tg))) ∧ Below w.heap.size w w' := by
  have c0 : w.cell? ⟨b, o, none⟩ = some (.int .u8 t.st) := range_cell hr 0 (kc t).1
  have hb : (w.alloc (.cells (tokCells u).toArray 60)).cell? ⟨b, o, none⟩ = some (.int .u8 t.st) := cell_later ((Below.refl _ w).alloc (Nat.le_refl _) _) c0
  have u0 : (tokCells u)[0]? = some (.int .u8 u.st) := (kc u).1
  have hz := zv60
  go_enter Yba.func20, Yba.ntmps20
  go_wp2
  go_quiet (fail)
  have hbel : Below w.heap.size w ((w.alloc (.cells (tokCells u).toArray 60)).drewN nq) := below_drewN ((Below.refl _ w).alloc (Nat.le_refl _) _) nq
  have hu1 : Blk ((w.alloc (.cells (tokCells u).toArray 60)).drewN nq) w.heap.size 60 (tokCells u) := (Blk.new w (tokCells u) 60).drewN nq
  have hsz : ((w.alloc (.cells (tokCells u).toArray 60)).drewN nq).heap.size = w.heap.size + 1 := by simp [World.drewN]
  generalize (w.alloc (.cells (tokCells u).toArray 60)).drewN nq = W1 at *
  have hr1 := range_old hr hbel
  clear c0 hb u0
  have hn1 : Blk (W1.alloc (.cells (tokCells zt).toArray 60)) (w.heap.size + 1) 60 (tokCells zt) := by rw [← hsz]; exact Blk.new W1 _ _
  have hbel1 : Below w.heap.size w (W1.alloc (.cells (tokCells zt).toArray 60)) := hbel.alloc (by omega) _
  have hu2 : Blk (W1.alloc (.cells (tokCells zt).toArray 60)) w.heap.size 60 (tokCells u) := hu1.old ((Below.refl _ _).alloc (Nat.le_refl _) _)
  go_wp2_with (first
    | (refine wpList_load_blk (by rfl) 60 _ (by rfl) b o (by rfl) (tokCells t) _ hr1 Yba.underlying60 rfl (size60 t) ?_)
    | (refine wpList_store_blk (by rfl) 60 _ _ (by rfl) (w.heap.size + 1) 0 (tokCells t) (by rfl) (by rfl) 60 (tokCells zt) hn1 (by simp [tokCells_length]) (size60 t) (tok_one t) ?_; intro W2 hn2 hg2 hs2; refine Stopped.out ?_))
  rw [splice_all _ _ (by rw [tokCells_length, tokCells_length])] at hn2
  have hu3 := hu2.other hg2 (by simp)
  have hbel2 : Below w.heap.size w W2 := hbel1.grown hg2 (by simp [hsz]; omega) (fun k hk => by simp at hk; omega)
  have hz2 : W2.heap.size = w.heap.size + 1 + 1 := by rw [hs2]; simp [hsz]
  have hrT : W2.rangeAt w.heap.size 139 (treeCells u.tree) := hu3.range (A := headCells u.st u.tg) (B := []) (by simp [tokCells]) (headCells_length _ _)
  clear hn1 hbel1 hu2 hg2 hs2 hu1 hsz hbel hr1
  unfold Stopped
  go_wp2_with (first
    | (refine wpList_load_blk (by rfl) 58 _ (by rfl) w.heap.size 139 (by rfl) (treeCells u.tree) _ hrT Yba.underlying58 rfl (size58 _) ?_)
    | (refine wpList_store_blk (by rfl) 58 _ _ (by rfl) (w.heap.size + 1) 139 (treeCells u.tree) (by rfl) (by rfl) 60 (tokCells t) hn2 (by simp [tokCells_length, treeCells_length]) (size58 _) (tree_one _) ?_; intro W3 hn3 hg3 hs3; refine Stopped.out ?_))
  rw [show tokCells t = headCells t.st t.tg ++ treeCells t.tree from rfl, splice_tail _ _ _ _ (headCells_length _ _) (by rw [treeCells_length, treeCells_length])] at hn3
  have hu4 := hu3.other hg3 (by simp)
  have hbel3 : Below w.heap.size w W3 := hbel2.grown hg3 (by omega) (fun k hk => by simp at hk; omega)
  have hr5 : W3.rangeAt (w.heap.size + 1) 0 (tokCells ⟨t.st, t.tg, u.tree⟩) := hn3.range (A := []) (B := []) (by simp [tokCells]) rfl
  have hr3 : W3.rangeAt w.heap.size 0 (tokCells u) := hu4.range (A := []) (B := []) (by simp) rfl
  clear hn2 hg3 hs3 hbel2 hrT hu3
  unfold Stopped
  go_wp2_with (first
    | (refine wpList_load_blk (by rfl) 60 _ (by rfl) (w.heap.size + 1) 0 (by rfl) (tokCells ⟨t.st, t.tg, u.tree⟩) _ hr5 Yba.underlying60 rfl (size60 _) ?_; refine Stopped.out ?_))
  unfold Stopped
  go_wp2_with (first
    | (refine wpList_load_blk (by rfl) 60 _ (by rfl) w.heap.size 0 (by rfl) (tokCells u) _ hr3 Yba.underlying60 rfl (size60 _) ?_; refine Stopped.out ?_))
  unfold Stopped
  have hst : t.st = u.st := by simpa using hne
  have heq : (binOp .eql 60 (.agg (tokCells ⟨t.st, t.tg, u.tree⟩).toArray) (.agg (tokCells u).toArray)).run Yba.prog W3 = .ok (.bool (decide (t.tg = u.tg))) W3 := by
    have := eql60 u.st t.tg u.tg u.tree ht hu hp W3
    rw [hst]; exact this
  have Hst : Hid (t.st = u.st) := hst
  clear hst
  go_wp2_with (first
    | (refine wpList_binOp_by (by rfl) .eql 60 _ _ 60 (by rfl) _ _ _ (by rfl) (by rfl) (guard60 _ _ _ _ _) heq ?_))
  go_ret
  exact ⟨rfl, hbel3⟩
set_option maxHeartbeats 400000 in
set_option maxRecDepth 10000 in
theorem same_diff (b o : Nat) (t u : Tok) (w : World) (hr : w.rangeAt b o (tokCells t)) (hne : (t.st != u.st) = true) :
    Calls Yba.prog 20 #[.pointer (some ⟨b, o, none⟩), .agg (tokCells u).toArray] w fun e w' => e = .returned (.bool false) ∧ Below w.heap.size w w' := by
  have c0 : w.cell? ⟨b, o, none⟩ = some (.int .u8 t.st) := range_cell hr 0 (kc t).1
  have hb : (w.alloc (.cells (tokCells u).toArray 60)).cell? ⟨b, o, none⟩ = some (.int .u8 t.st) := cell_later ((Below.refl _ w).alloc (Nat.le_refl _) _) c0
  have u0 : (tokCells u)[0]? = some (.int .u8 u.st) := (kc u).1
  go_enter Yba.func20, Yba.ntmps20
  go_wp2
  go_quiet (fail)
  go_wp2
  go_ret
  exact ⟨rfl, below_drewN ((Below.refl _ w).alloc (Nat.le_refl _) _) nq⟩

/-- the two paths read what follows alike: state and tag -/
def alike (t u : Tok) : Bool := t.st == u.st && decide (t.tg = u.tg)
/-- (*tokenizer).sameState -/
theorem sameState_any (b o : Nat) (t u : Tok) (ht : t.tg < 3) (hu : u.tg < 3) (hp : u.tree.point < 3) (w : World) (hr : w.rangeAt b o (tokCells t)) :
    Calls Yba.prog 20 #[.pointer (some ⟨b, o, none⟩), .agg (tokCells u).toArray] w fun e w' => e = .returned (.bool (alike t u)) ∧ Below w.heap.size w w' := by
  by_cases h : t.st = u.st
  · have e : alike t u = decide (t.tg = u.tg) := by simp [alike, h]
    rw [e]
    exact same_tag b o t u ht hu hp w hr (by simp [h])
  · have e : alike t u = false := by simp [alike, h]
    rw [e]
    exact same_diff b o t u w hr (by simp [h])
end Go.Proofs.Ybulkafpc
