/-
  CONTRACT of zzs1575cname (22).
-/
import Derived.Test.YbulkafpcJoin
import Derived.Lib.BufferWrite
import Derived.Laws.Rows
namespace Go.Proofs.Ybulkafpc
open Go.RowKit
set_option maxHeartbeats 1000000 in
set_option maxRecDepth 10000 in
theorem cname_none (s : Int) (h0 : 0 ≤ s) (h1 : s < 256) (h : s % 3 = 0) (w : World) :
    Calls Yba.prog 22 #[.int .u8 s] w fun e w' => e = .returned (.agg (nm 0).toArray) ∧ Below w.heap.size w w' := by
  have hz := zv51
  have q1 : Blk ((w.alloc (.cells (nm 0).toArray 51)).alloc (.cells (nm 0).toArray 51)) (w.heap.size + 1) 51 (nm 0) := by
    have := Blk.new (w.alloc (.cells (nm 0).toArray 51)) (nm 0) 51
    simpa using this
  have q0 : Blk ((w.alloc (.cells (nm 0).toArray 51)).alloc (.cells (nm 0).toArray 51)) w.heap.size 51 (nm 0) := (Blk.new w (nm 0) 51).old ((Below.refl _ _).alloc (Nat.le_refl _) _)
  have b0 : Below w.heap.size w ((w.alloc (.cells (nm 0).toArray 51)).alloc (.cells (nm 0).toArray 51)) := (((Below.refl _ w).alloc (Nat.le_refl _) _)).alloc (by simp) _
  have r1 := q1.range (A := []) (B := []) (cs := nm 0) (o := 0) (by simp) rfl
  go_enter Yba.func22, Yba.ntmps22
  go_wp2_with (first
    | (refine wpList_load_blk (by rfl) 51 _ (by rfl) (w.heap.size + 1) 0 (by rfl) (nm 0) _ r1 Yba.underlying51 rfl (nm51 _) ?_)
    | (refine wpList_store_blk (by rfl) 51 _ _ (by rfl) w.heap.size 0 (nm 0) (by rfl) (by rfl) 51 (nm 0) q0 (by simp [nm_length]) (nm51 _) (nm_one _) ?_; intro W2 hn2 hg2 hs2; refine Stopped.out ?_))
  rw [splice_all _ _ rfl] at hn2
  have r2 := hn2.range (A := []) (B := []) (cs := nm 0) (o := 0) (by simp) rfl
  have b2 : Below w.heap.size w W2 := b0.grown hg2 (by simp; omega) (fun k hk => by simp at hk; omega)
  unfold Stopped
  go_wp2
  (try simp only [Exit.inBlock, Exit.then])
  refine bodyPost_ret (results_cell_row (by rfl) _ _ w.heap.size 51 (nm 0).toArray (0, 0) _ (by rfl) hn2 Yba.underlying51 (by rfl) (by kernel_rfl)) (by rfl) ?_
  exact ⟨rfl, b2⟩

set_option maxHeartbeats 1000000 in
set_option maxRecDepth 10000 in
theorem cname_1 (s : Int) (h0 : 0 ≤ s) (h1 : s < 256) (h : s % 3 = 1) (w : World) :
    Calls Yba.prog 22 #[.int .u8 s] w fun e w' => e = .returned (.agg (nm 1).toArray) ∧ Below w.heap.size w w' := by
  have hz := zv51
  have q1 : Blk ((w.alloc (.cells (nm 0).toArray 51)).alloc (.cells (nm 0).toArray 51)) (w.heap.size + 1) 51 (nm 0) := by
    have := Blk.new (w.alloc (.cells (nm 0).toArray 51)) (nm 0) 51
    simpa using this
  have q0 : Blk ((w.alloc (.cells (nm 0).toArray 51)).alloc (.cells (nm 0).toArray 51)) w.heap.size 51 (nm 0) := (Blk.new w (nm 0) 51).old ((Below.refl _ _).alloc (Nat.le_refl _) _)
  have b0 : Below w.heap.size w ((w.alloc (.cells (nm 0).toArray 51)).alloc (.cells (nm 0).toArray 51)) := (((Below.refl _ w).alloc (Nat.le_refl _) _)).alloc (by simp) _
  have hcopy := Lib.run_copy_row_string (P := Yba.prog) _ 24 9 3 5 (w.heap.size + 1) 0 16 16 ⟨#[116, 105, 116, 108, 101]⟩ (nm 0).toArray 51 Yba.underlying24 (by kernel_rfl) q1 (by decide) (by decide)
  have hz0 : ((w.alloc (.cells (nm 0).toArray 51)).alloc (.cells (nm 0).toArray 51)).heap.size = w.heap.size + 2 := by simp
  have s1 := setRow_heap _ (w.heap.size + 1) _ ((nm 0).toArray.toList.take 0 ++ Lib.byteCells (ByteArray.mk #[116, 105, 116, 108, 101]).data.toList ++ (nm 0).toArray.toList.drop (0 + (ByteArray.mk #[116, 105, 116, 108, 101]).size)).toArray 51 _ q1
  have s2 : ((w.alloc (.cells (nm 0).toArray 51)).alloc (.cells (nm 0).toArray 51)).grownBy (((w.alloc (.cells (nm 0).toArray 51)).alloc (.cells (nm 0).toArray 51)).setRow (w.heap.size + 1) ((nm 0).toArray.toList.take 0 ++ Lib.byteCells (ByteArray.mk #[116, 105, 116, 108, 101]).data.toList ++ (nm 0).toArray.toList.drop (0 + (ByteArray.mk #[116, 105, 116, 108, 101]).size)).toArray) (some (w.heap.size + 1)) :=
    ⟨rfl, rfl, rfl, by simp [World.setRow], fun k _ hk => setRow_other _ _ k _ (fun e => hk (by rw [e]))⟩
  generalize ((w.alloc (.cells (nm 0).toArray 51)).alloc (.cells (nm 0).toArray 51)).setRow (w.heap.size + 1) ((nm 0).toArray.toList.take 0 ++ Lib.byteCells (ByteArray.mk #[116, 105, 116, 108, 101]).data.toList ++ (nm 0).toArray.toList.drop (0 + (ByteArray.mk #[116, 105, 116, 108, 101]).size)).toArray = W1 at hcopy s1 s2
  have p1 : Blk W1 (w.heap.size + 1) 51 [.int .u8 116, .int .u8 105, .int .u8 116, .int .u8 108, .int .u8 101, z8, z8, z8, z8, z8, z8, z8, z8, z8, z8, z8, z8, fl] := s1
  have p0 : Blk W1 w.heap.size 51 (nm 0) := q0.other s2 (by simp)
  have f1 := p1.frozen 16
  have c1 : W1.cell? ⟨w.heap.size + 1, 16, none⟩ = some z8 := p1.cell 16
  have t1 := p1.set 16 (.int .u8 5)
  have r1 : (W1.setCell ⟨w.heap.size + 1, 16, none⟩ (.int .u8 5)).rangeAt (w.heap.size + 1) 0 (nm 1) := t1.1.range (A := []) (B := []) (by rfl) rfl
  have p2 := p0.other t1.2.1 (by simp)
  have b1 : Below w.heap.size w (W1.setCell ⟨w.heap.size + 1, 16, none⟩ (.int .u8 5)) := (b0.grown s2 (by rw [hz0]; omega) (fun k hk => by simp at hk; omega)).grown t1.2.1 (by have := s2.size; rw [hz0] at this; omega) (fun k hk => by simp at hk; omega)
  have z1 : w.heap.size ≤ (W1.setCell ⟨w.heap.size + 1, 16, none⟩ (.int .u8 5)).heap.size := b1.size
  clear q1 q0 s1 s2 b0 p1 t1
  go_enter Yba.func22, Yba.ntmps22
  go_wp2_with (first
    | (refine wpList_load_blk (by rfl) 51 _ (by rfl) (w.heap.size + 1) 0 (by rfl) (nm 1) _ r1 Yba.underlying51 rfl (nm51 _) ?_)
    | (refine wpList_store_blk (by rfl) 51 _ _ (by rfl) w.heap.size 0 (nm 1) (by rfl) (by rfl) 51 (nm 0) p2 (by simp [nm_length]) (nm51 _) (nm_one _) ?_; intro W2 hn2 hg2 hs2; refine Stopped.out ?_))
  rw [splice_all _ _ (by rw [nm_length, nm_length])] at hn2
  have b2 : Below w.heap.size w W2 := b1.grown hg2 z1 (fun k hk => by simp at hk; omega)
  unfold Stopped
  go_wp2
  (try simp only [Exit.inBlock, Exit.then])
  refine bodyPost_ret (results_cell_row (by rfl) _ _ w.heap.size 51 (nm 1).toArray (0, 0) _ (by rfl) hn2 Yba.underlying51 (by rfl) (by kernel_rfl)) (by rfl) ?_
  exact ⟨rfl, b2⟩

set_option maxHeartbeats 1000000 in
set_option maxRecDepth 10000 in
theorem cname_2 (s : Int) (h0 : 0 ≤ s) (h1 : s < 256) (h : s % 3 = 2) (w : World) :
    Calls Yba.prog 22 #[.int .u8 s] w fun e w' => e = .returned (.agg (nm 2).toArray) ∧ Below w.heap.size w w' := by
  have hz := zv51
  have q1 : Blk ((w.alloc (.cells (nm 0).toArray 51)).alloc (.cells (nm 0).toArray 51)) (w.heap.size + 1) 51 (nm 0) := by
    have := Blk.new (w.alloc (.cells (nm 0).toArray 51)) (nm 0) 51
    simpa using this
  have q0 : Blk ((w.alloc (.cells (nm 0).toArray 51)).alloc (.cells (nm 0).toArray 51)) w.heap.size 51 (nm 0) := (Blk.new w (nm 0) 51).old ((Below.refl _ _).alloc (Nat.le_refl _) _)
  have b0 : Below w.heap.size w ((w.alloc (.cells (nm 0).toArray 51)).alloc (.cells (nm 0).toArray 51)) := (((Below.refl _ w).alloc (Nat.le_refl _) _)).alloc (by simp) _
  have hcopy := Lib.run_copy_row_string (P := Yba.prog) _ 24 9 3 5 (w.heap.size + 1) 0 16 16 ⟨#[100, 101, 115, 99]⟩ (nm 0).toArray 51 Yba.underlying24 (by kernel_rfl) q1 (by decide) (by decide)
  have hz0 : ((w.alloc (.cells (nm 0).toArray 51)).alloc (.cells (nm 0).toArray 51)).heap.size = w.heap.size + 2 := by simp
  have s1 := setRow_heap _ (w.heap.size + 1) _ ((nm 0).toArray.toList.take 0 ++ Lib.byteCells (ByteArray.mk #[100, 101, 115, 99]).data.toList ++ (nm 0).toArray.toList.drop (0 + (ByteArray.mk #[100, 101, 115, 99]).size)).toArray 51 _ q1
  have s2 : ((w.alloc (.cells (nm 0).toArray 51)).alloc (.cells (nm 0).toArray 51)).grownBy (((w.alloc (.cells (nm 0).toArray 51)).alloc (.cells (nm 0).toArray 51)).setRow (w.heap.size + 1) ((nm 0).toArray.toList.take 0 ++ Lib.byteCells (ByteArray.mk #[100, 101, 115, 99]).data.toList ++ (nm 0).toArray.toList.drop (0 + (ByteArray.mk #[100, 101, 115, 99]).size)).toArray) (some (w.heap.size + 1)) :=
    ⟨rfl, rfl, rfl, by simp [World.setRow], fun k _ hk => setRow_other _ _ k _ (fun e => hk (by rw [e]))⟩
  generalize ((w.alloc (.cells (nm 0).toArray 51)).alloc (.cells (nm 0).toArray 51)).setRow (w.heap.size + 1) ((nm 0).toArray.toList.take 0 ++ Lib.byteCells (ByteArray.mk #[100, 101, 115, 99]).data.toList ++ (nm 0).toArray.toList.drop (0 + (ByteArray.mk #[100, 101, 115, 99]).size)).toArray = W1 at hcopy s1 s2
  have p1 : Blk W1 (w.heap.size + 1) 51 [.int .u8 100, .int .u8 101, .int .u8 115, .int .u8 99, z8, z8, z8, z8, z8, z8, z8, z8, z8, z8, z8, z8, z8, fl] := s1
  have p0 : Blk W1 w.heap.size 51 (nm 0) := q0.other s2 (by simp)
  have f1 := p1.frozen 16
  have c1 : W1.cell? ⟨w.heap.size + 1, 16, none⟩ = some z8 := p1.cell 16
  have t1 := p1.set 16 (.int .u8 4)
  have r1 : (W1.setCell ⟨w.heap.size + 1, 16, none⟩ (.int .u8 4)).rangeAt (w.heap.size + 1) 0 (nm 2) := t1.1.range (A := []) (B := []) (by rfl) rfl
  have p2 := p0.other t1.2.1 (by simp)
  have b1 : Below w.heap.size w (W1.setCell ⟨w.heap.size + 1, 16, none⟩ (.int .u8 4)) := (b0.grown s2 (by rw [hz0]; omega) (fun k hk => by simp at hk; omega)).grown t1.2.1 (by have := s2.size; rw [hz0] at this; omega) (fun k hk => by simp at hk; omega)
  have z1 : w.heap.size ≤ (W1.setCell ⟨w.heap.size + 1, 16, none⟩ (.int .u8 4)).heap.size := b1.size
  clear q1 q0 s1 s2 b0 p1 t1
  go_enter Yba.func22, Yba.ntmps22
  go_wp2_with (first
    | (refine wpList_load_blk (by rfl) 51 _ (by rfl) (w.heap.size + 1) 0 (by rfl) (nm 2) _ r1 Yba.underlying51 rfl (nm51 _) ?_)
    | (refine wpList_store_blk (by rfl) 51 _ _ (by rfl) w.heap.size 0 (nm 2) (by rfl) (by rfl) 51 (nm 0) p2 (by simp [nm_length]) (nm51 _) (nm_one _) ?_; intro W2 hn2 hg2 hs2; refine Stopped.out ?_))
  rw [splice_all _ _ (by rw [nm_length, nm_length])] at hn2
  have b2 : Below w.heap.size w W2 := b1.grown hg2 z1 (fun k hk => by simp at hk; omega)
  unfold Stopped
  go_wp2
  (try simp only [Exit.inBlock, Exit.then])
  refine bodyPost_ret (results_cell_row (by rfl) _ _ w.heap.size 51 (nm 2).toArray (0, 0) _ (by rfl) hn2 Yba.underlying51 (by rfl) (by kernel_rfl)) (by rfl) ?_
  exact ⟨rfl, b2⟩

/-- zzs1575cname -/
theorem cname_any (s : Int) (h0 : 0 ≤ s) (h1 : s < 256) (w : World) :
    Calls Yba.prog 22 #[.int .u8 s] w fun e w' => e = .returned (.agg (nm (s % 3).toNat).toArray) ∧ Below w.heap.size w w' := by
  have hs : s % 3 = 0 ∨ s % 3 = 1 ∨ s % 3 = 2 := by omega
  rcases hs with h | h | h
  · rw [h]; exact cname_none s h0 h1 h w
  · rw [h]; exact cname_1 s h0 h1 h w
  · rw [h]; exact cname_2 s h0 h1 h w
end Go.Proofs.Ybulkafpc
