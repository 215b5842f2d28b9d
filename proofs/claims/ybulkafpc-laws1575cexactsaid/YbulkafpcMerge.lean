/-
  CONTRACT of merge (12).
-/
import Derived.Test.YbulkafpcBuild
import Derived.Great.BuildSlice
import Derived.Great.FillDense
import Derived.ArgAppend
namespace Go.Proofs.Ybulkafpc
open Go.RowKit
def joinTok (t p : Tok) : Tok := { t with tree := joinT t.tree p.tree }
def mstep (K : List Tok) (p : Tok) : List Tok :=
  match K.findIdx? (alike p) with
  | some i => K.modify i (joinTok · p)
  | none => K ++ [p]
def mrg (L : List Tok) : List Tok := (L.drop 1).foldl mstep (L.take 1)
theorem bs60 (t : Tok) (w : World) : (Instr.buildSlice 42 1 #[(0, .agg (tokCells t).toArray)]).run Yba.prog w = .ok (.slice (some ⟨w.heap.size, 0, none⟩) 1 1) (w.alloc (.cells (tokCells t).toArray 60)) := by
  obtain ⟨i, h1, h2, h3, h4⟩ := info60
  refine run_buildSlice w 42 60 1 _ _ i _ Yba.underlying42 h1 h2 (by rw [h3]; omega) (by rw [h3]; omega) ?_
  rw [h3]
  have := Great.fill_whole (s := 168) (by omega) [.agg (tokCells t).toArray] ((Array.range (1 * 168)).map ((Value.agg (tokCells zt).toArray).cells[· % (Value.agg (tokCells zt).toArray).cells.size]!)) (by
    intro v hv
    simp only [List.mem_singleton] at hv
    subst hv
    simp [Value.cells, tokCells_length]) (by simp)
  simpa [Value.cells] using this
theorem app60 (g m n : Nat) (L : List Tok) (t : Tok) (hL : L.length = n) (hm : m < n) (b : Nat) (ty : TypeId) (w : World) (hg : Blk w g 60 (flat L)) (ht : Blk w b 60 (tokCells t)) :
    (Builtin.append_ #[42, 42] ty #[.slice (some ⟨g, 0, none⟩) m n, .slice (some ⟨b, 0, none⟩) 1 1]).run Yba.prog w = .ok (.slice (some ⟨g, 0, none⟩) (m + 1) n) (w.setCells g (m * 168) (tokCells t)) := by
  obtain ⟨i, h1, h2, h3, h4⟩ := info60
  have hl := tokCells_length t
  have hfl := flat_length L
  have := run_append_room_cells (P := Yba.prog) w 42 ty 60 i Yba.underlying42 h1 g 0 m n ⟨b, 0, none⟩ 1 1 (tokCells t) (by rw [h3, hl]) (by
    intro j u hj
    rw [Addr.add_mid, Nat.zero_add, ht.cell]; exact hj) (tok_one t) (by omega) (by
    intro j hj
    rw [h3, hg.cell, List.getElem?_eq_getElem (by omega)]; rfl) (by
    intro j hj
    exact hg.frozen _)
  rw [h3] at this
  simpa using this
theorem grown_below {w w1 w2 : World} {r : Option Nat} (h : w.grownBy w1 r) (b : Below w1.heap.size w1 w2) : w.grownBy w2 r :=
  ⟨b.os.trans h.os, b.tape.trans h.tape, b.output.trans h.output, Nat.le_trans h.size b.size, fun k hk hr => (b.block k (Nat.lt_of_lt_of_le hk h.size)).trans (h.block k hk hr)⟩
/-- merge's loop -/
structure MInv (w : World) (g n : Nat) (L0 : List Tok) (k m : Nat) (L : List Tok) (w' : World) : Prop where
  blk : Blk w' g 60 (flat L)
  len : L.length = n
  m1 : 1 ≤ m
  mk1 : m ≤ k + 1
  kn : k + 1 ≤ n
  take : L.take m = ((L0.drop 1).take k).foldl mstep (L0.take 1)
  drop : L.drop (k + 1) = L0.drop (k + 1)
  good : ∀ u ∈ L, Good u
  grown : w.grownBy w' (some g)
theorem MInv.elem {w : World} {g n : Nat} {L0 : List Tok} {k m : Nat} {L : List Tok} {w' : World} (h : MInv w g n L0 k m L w') (hk : k + 1 < L.length) : (L0.drop 1)[k]? = some L[k + 1] := by
  have e : (L.drop (k + 1))[0]? = (L0.drop (k + 1))[0]? := by rw [h.drop]
  rw [List.getElem?_drop, List.getElem?_drop, Nat.add_zero, List.getElem?_eq_getElem hk] at e
  rw [List.getElem?_drop, Nat.add_comm, e]
theorem MInv.fold {w : World} {g n : Nat} {L0 : List Tok} {k m : Nat} {L : List Tok} {w' : World} (h : MInv w g n L0 k m L w') (hk : k + 1 < L.length) :
    ((L0.drop 1).take (k + 1)).foldl mstep (L0.take 1) = mstep (L.take m) L[k + 1] := by
  rw [List.take_add_one (i := k) (l := L0.drop 1), h.elem hk, List.foldl_append, ← h.take]
  rfl
theorem MInv.missed {w : World} {g n : Nat} {L0 : List Tok} {k m : Nat} {L : List Tok} {w' w2 : World} (h : MInv w g n L0 k m L w') (hk : k + 1 < L.length) (hf : findAt L[k + 1] L m = none)
    (hb : Blk w2 g 60 (flat (L.set m L[k + 1]))) (hw : w.grownBy w2 (some g)) : MInv w g n L0 (k + 1) (m + 1) (L.set m L[k + 1]) w2 := by
  have hl := h.len
  have hmk := h.mk1
  refine ⟨hb, by simpa using hl, by omega, by omega, by omega, ?_, ?_, ?_, hw⟩
  · rw [h.fold hk]
    unfold mstep
    unfold findAt at hf
    rw [hf, List.take_succ_eq_append_getElem (by simpa using (by omega : m < L.length))]
    simp [List.take_set_of_le]
  · rw [List.drop_set_of_lt (by omega), ← List.drop_drop (i := 1), ← List.drop_drop (i := 1) (l := L0), h.drop]
  · intro u hu
    rcases List.mem_or_eq_of_mem_set hu with hu | rfl
    · exact h.good u hu
    · exact h.good _ (List.getElem_mem hk)
theorem joinT_point (T U : Tree) (h : T.point < 3) : (joinT T U).point < 3 := by
  show (j7 (j6 (j5 (j4 (j3 (j2 (j1 T U) U) U) U) U) U) U).point < 3
  unfold j7
  split
  · exact h
  · show (0 : Nat) < 3
    omega
theorem MInv.found {w : World} {g n : Nat} {L0 : List Tok} {k m : Nat} {L : List Tok} {w' w2 : World} (h : MInv w g n L0 k m L w') (hk : k + 1 < L.length) (i : Nat) (hi : i < L.length) (him : i < m) (hf : findAt L[k + 1] L m = some i)
    (hb : Blk w2 g 60 (flat (L.set i (joinTok L[i] L[k + 1])))) (hw : w.grownBy w2 (some g)) : MInv w g n L0 (k + 1) m (L.set i (joinTok L[i] L[k + 1])) w2 := by
  have hl := h.len
  have hmk := h.mk1
  refine ⟨hb, by simpa using hl, h.m1, by omega, by omega, ?_, ?_, ?_, hw⟩
  · rw [h.fold hk]
    unfold mstep
    unfold findAt at hf
    rw [hf]
    rw [List.take_set]
    apply List.ext_getElem?
    intro j
    rw [List.getElem?_modify, List.getElem?_set]
    by_cases hij : i = j
    · subst hij
      simp [him, hi, List.length_take]
      omega
    · simp [hij]
  · rw [List.drop_set_of_lt (by omega), ← List.drop_drop (i := 1), ← List.drop_drop (i := 1) (l := L0), h.drop]
  · intro u hu
    rcases List.mem_or_eq_of_mem_set hu with hu | rfl
    · exact h.good u hu
    · have := h.good _ (List.getElem_mem hi)
      exact ⟨this.1, joinT_point _ _ this.2⟩
theorem findAt_lt {t : Tok} {L : List Tok} {m i : Nat} (hm : m ≤ L.length) (h : findAt t L m = some i) : i < m := by
  unfold findAt at h
  rw [List.findIdx?_eq_some_iff_getElem] at h
  obtain ⟨h1, -⟩ := h
  rw [List.length_take] at h1
  omega
theorem flat_tree (L : List Tok) (i : Nat) (hi : i < L.length) (T : Tree) : flat (L.set i { L[i] with tree := T }) = (flat (L.take i) ++ headCells L[i].st L[i].tg) ++ (treeCells T ++ flat (L.drop (i + 1))) := by
  rw [flat_at (L.set i { L[i] with tree := T }) i (by simpa using hi), List.take_set_of_le (Nat.le_refl _), List.drop_set_of_lt (by omega)]
  simp [tokCells]
theorem flat_tree0 (L : List Tok) (i : Nat) (hi : i < L.length) : flat L = (flat (L.take i) ++ headCells L[i].st L[i].tg) ++ (treeCells L[i].tree ++ flat (L.drop (i + 1))) := by
  rw [flat_at L i hi]
  simp [tokCells]
theorem wpList_append_by {P : Program} {ops : Array Oper} {rest : List Oper} {o : Oper} {a : Act} {w : World} {Q : Exit → Act → World → Prop} (hgd : o.guard = none) (s x : Operand) (t u : TypeId)
    (ho : o.op = .call { callee := .builtin .append, args := #[s, x], argTypes := #[t, u] }) (vs vx v : Value) (w' : World) (hs : a.eval s = vs) (hx : a.eval x = vx)
    (hr : (Builtin.append_ #[t, u] o.type #[vs, vx]).run P w = .ok v w') (h : wpList P ops Q rest (a.put o.dst v) w') : wpList P ops Q (o :: rest) a w := by
  refine wpList_plain hgd fun K hK => ?_
  unfold Oper.wp
  simp [execOp, ho, resolve, invoke, builtin, hs, hx, hr, Result.andThen]
  exact hK _ _ h
/-- a slice's building, kept whole -/
def sliceW (t : TypeId) (n : Nat) (parts : Array (Nat × Value)) : Sem Value := Instr.buildSlice t n parts
theorem fold_slice (t : TypeId) (n : Nat) (parts : Array (Nat × Value)) : Instr.buildSlice t n parts = sliceW t n parts := rfl
theorem bs60W (t : Tok) (w : World) : (sliceW 42 1 #[(0, .agg (tokCells t).toArray)]).run Yba.prog w = .ok (.slice (some ⟨w.heap.size, 0, none⟩) 1 1) (w.alloc (.cells (tokCells t).toArray 60)) := bs60 t w
attribute [local go_sem ↓] fold_slice
set_option maxHeartbeats 2000000 in
set_option maxRecDepth 10000 in
theorem merge_more (g n : Nat) (L0 : List Tok) (hn : L0.length = n) (h1 : 1 < n) (h256 : n ≤ 256) (hG : ∀ u ∈ L0, Good u) (w : World) (hb : Blk w g 60 (flat L0)) :
    Calls Yba.prog 12 #[.slice (some ⟨g, 0, none⟩) n n] w fun e w' => ∃ m L, e = .returned (.slice (some ⟨g, 0, none⟩) m n) ∧ Blk w' g 60 (flat L) ∧ L.length = n ∧ m ≤ n ∧ L.take m = mrg L0 ∧ w.grownBy w' (some g) := by
  have h1' : (1 : Int) ≤ (n : Int) := by omega
  have hne : ¬ n = 1 := by omega
  have hz := zv60
  go_enter Yba.func12, Yba.ntmps12
  go_wp2
  go_loopw [3, 12] (fun s i w' => ∃ (k m : Nat) (L : List Tok), s = .slice (some ⟨g, 0, none⟩) m n ∧ i = .int .i64 k ∧ MInv w g n L0 k m L w') (fun _ i _ => n - 1 - (intOf i).toNat)
  case atStart => exact ⟨0, 1, L0, rfl, rfl, hb, hn, by omega, by omega, by omega, by simp, rfl, hG, World.grownBy.refl _ _⟩
  case round =>
    obtain ⟨k, m, L, rfl, rfl, inv⟩ := hrel
    have hkn := inv.kn
    have hlen := inv.len
    have hm1 := inv.m1
    have hmk := inv.mk1
    by_cases hlt : k < n - 1
    · have hk1 : k + 1 < L.length := by omega
      have hbk := inv.blk
      have hgood := inv.good
      have hrg : wr.rangeAt g (168 + k * 168) (tokCells L[k + 1]) := flat_range hbk (k + 1) hk1 _ (by omega)
      have Hinv : Hid (MInv w g n L0 k m L wr) := inv
      have n1 : Blk (wr.alloc (.cells (tokCells zt).toArray 60)) wr.heap.size 60 (tokCells zt) := Blk.new wr _ _
      have g1 : Blk (wr.alloc (.cells (tokCells zt).toArray 60)) g 60 (flat L) := hbk.old ((Below.refl _ _).alloc (Nat.le_refl _) _)
      have b1 : Below wr.heap.size wr (wr.alloc (.cells (tokCells zt).toArray 60)) := (Below.refl _ _).alloc (Nat.le_refl _) _
      have hgl := hbk.lt
      have hp := hgood _ (List.getElem_mem hk1)
      clear inv hG hb
      generalize hpp : L[k + 1] = p at hrg hp
      go_wp2_with (first
        | (refine wpList_load_blk (by rfl) 60 _ (by rfl) g (168 + k * 168) (by rfl) (tokCells p) _ hrg Yba.underlying60 rfl (size60 _) ?_)
        | (refine wpList_store_blk (by rfl) 60 _ _ (by rfl) wr.heap.size 0 (tokCells p) (by rfl) (by rfl) 60 (tokCells zt) n1 (fit60 _ _) (size60 _) (tok_one _) ?_; intro W2 hn2 hg2 hs2; refine Stopped.out ?_))
      rw [splice_all _ _ (by rw [tokCells_length, tokCells_length])] at hn2
      have g2 : Blk W2 g 60 (flat L) := g1.other hg2 (by simp; omega)
      have b2 : Below wr.heap.size wr W2 := b1.grown hg2 (by simp) (fun k hk => by cases hk; exact Nat.le_refl _)
      clear n1 g1 b1 hg2 hs2
      have r2 := hn2.range (A := []) (B := []) (cs := tokCells p) (o := 0) (by simp) rfl
      have hidx := indexFunc_any g m n wr.heap.size L p (by omega) (by omega) hgood hp W2 g2 r2
      have hmL : m ≤ L.length := by omega
      rcases hf : findAt p L m with _ | i
      · rw [hf] at hidx
        have hidx' : Calls Yba.prog 19 #[.slice (some ⟨g, 0, none⟩) m n, .func (.func 20) #[.pointer (some ⟨wr.heap.size, 0, none⟩)] #[]] W2 fun e w' => e = .returned (.int .i64 (-1)) ∧ Below W2.heap.size W2 w' := hidx
        have Hf : Hid (findAt p L m = none) := hf
        clear hf hidx
        unfold Stopped
        go_wp2_with (first
          | (go_at_call 19; refine hidx'.mono ?_; rintro e W3 ⟨rfl, b3⟩; refine Stopped.out ?_))
        have n3 := hn2.old b3
        have g3 := g2.old b3
        have r3 := n3.range (A := []) (B := []) (cs := tokCells p) (o := 0) (by simp) rfl
        have hbs := bs60W p W3
        have n4 : Blk (W3.alloc (.cells (tokCells p).toArray 60)) W3.heap.size 60 (tokCells p) := Blk.new W3 _ _
        have g4 : Blk (W3.alloc (.cells (tokCells p).toArray 60)) g 60 (flat L) := g3.old ((Below.refl _ _).alloc (Nat.le_refl _) _)
        have happ := app60 g m n L p hlen (by omega) W3.heap.size 42 (W3.alloc (.cells (tokCells p).toArray 60)) g4 n4
        have hst := g4.stored (o := m * 168) (cs := tokCells p) (by rw [flat_length, tokCells_length]; omega)
        rw [flat_set L m (by omega)] at hst
        have Hst := hst.1
        have Hgr : Hid (w.grownBy ((W3.alloc (.cells (tokCells p).toArray 60)).setCells g (m * 168) (tokCells p)) (some g)) :=
          grown_trans (grown_below (grown_below (grown_below Hinv.out.grown b2) (b3.mono (Nat.le_refl _))) ((Below.refl _ _).alloc (Nat.le_refl _) _)) hst.2.1
        clear hst g2 g3 g4 n4 n3 r2 hn2 hrg hidx'
        generalize (W3.alloc (.cells (tokCells p).toArray 60)).setCells g (m * 168) (tokCells p) = W5 at *
        unfold Stopped
        go_wp2_with (first
          | (refine wpList_load_blk (by rfl) 60 _ (by rfl) wr.heap.size 0 (by rfl) (tokCells p) _ r3 Yba.underlying60 rfl (size60 _) ?_)
          | (refine wpList_append_by (by rfl) _ _ 42 42 (by rfl) _ _ _ _ (by rfl) (by rfl) happ ?_))
        go_roundw
        case rel =>
          subst hpp
          exact ⟨k + 1, m + 1, _, rfl, by go_num, Hinv.out.missed hk1 Hf.out Hst Hgr.out⟩
        case measure => simp [intOf]; omega
      · rw [hf] at hidx
        have him := findAt_lt hmL hf
        have hi : i < L.length := by omega
        have hidx' : Calls Yba.prog 19 #[.slice (some ⟨g, 0, none⟩) m n, .func (.func 20) #[.pointer (some ⟨wr.heap.size, 0, none⟩)] #[]] W2 fun e w' => e = .returned (.int .i64 (i : Int)) ∧ Below W2.heap.size W2 w' := hidx
        have Hf : Hid (findAt p L m = some i) := hf
        clear hf hidx
        unfold Stopped
        go_wp2_with (first
          | (go_at_call 19; refine hidx'.mono ?_; rintro e W3 ⟨rfl, b3⟩; refine Stopped.out ?_))
        have n3 := hn2.old b3
        have g3 := g2.old b3
        have hLi := hgood _ (List.getElem_mem hi)
        rw [flat_tree0 L i hi] at g3
        have n3' : Blk W3 wr.heap.size 60 (headCells p.st p.tg ++ (treeCells p.tree ++ [])) := by simpa [tokCells] using n3
        have hj := join_any g (i * 168 + 139) wr.heap.size 139 60 (by omega) L[i].tree p.tree _ _ _ _ (by
          rw [List.length_append, flat_length, headCells_length, List.length_take]; congr 2; omega) (headCells_length _ _) hLi.2 hp.2 W3 g3 n3'
        have Hj : Hid (Calls Yba.prog 21 #[.pointer (some ⟨g, i * 168 + 139, none⟩), .pointer (some ⟨wr.heap.size, 139, none⟩)] W3 fun e w' => e = .returned (.tuple #[]) ∧ Blk w' g 60 (flat (L.set i { L[i] with tree := joinT L[i].tree p.tree })) ∧ W3.grownBy w' (some g)) :=
          hj.mono (fun e w' ⟨h1, h2, h3⟩ => ⟨h1, by rw [flat_tree]; exact h2, h3⟩)
        clear hj n3 n3' g3 g2 hn2 r2 hrg hidx'
        unfold Stopped
        go_wp2_with (first
          | (go_at_call 21; refine Hj.out.mono ?_; rintro e W4 ⟨rfl, b4, g4⟩))
        go_roundw
        case rel =>
          subst hpp
          exact ⟨k + 1, m, _, rfl, by go_num, Hinv.out.found hk1 i hi him Hf.out b4 (grown_trans (grown_below (grown_below Hinv.out.grown b2) b3) g4)⟩
        case measure => simp [intOf]; omega
    · obtain rfl : k = n - 1 := by omega
      go_wp2
      go_ret
      refine ⟨m, L, rfl, inv.blk, hlen, by omega, ?_, inv.grown⟩
      rw [inv.take]
      unfold mrg
      rw [List.take_of_length_le (l := L0.drop 1) (by rw [List.length_drop]; omega)]
set_option maxHeartbeats 2000000 in
set_option maxRecDepth 10000 in
theorem merge_one (g : Nat) (L0 : List Tok) (hn : L0.length = 1) (w : World) (hb : Blk w g 60 (flat L0)) :
    Calls Yba.prog 12 #[.slice (some ⟨g, 0, none⟩) 1 1] w fun e w' => ∃ m L, e = .returned (.slice (some ⟨g, 0, none⟩) m 1) ∧ Blk w' g 60 (flat L) ∧ L.length = 1 ∧ m ≤ 1 ∧ L.take m = mrg L0 ∧ w.grownBy w' (some g) := by
  go_enter Yba.func12, Yba.ntmps12
  go_wp2
  go_loopw [3, 12] (fun s i w' => s = .slice (some ⟨g, 0, none⟩) 1 1 ∧ i = .int .i64 0 ∧ w' = w) (fun _ _ _ => 0)
  case atStart => exact ⟨rfl, rfl, rfl⟩
  case round =>
    obtain ⟨rfl, rfl, rfl⟩ := hrel
    go_wp2
    go_ret
    refine ⟨1, L0, rfl, hb, hn, Nat.le_refl _, ?_, World.grownBy.refl _ _⟩
    unfold mrg
    rw [List.drop_eq_nil_of_le (by omega)]
    rfl
/-- merge -/
theorem merge_any (g n : Nat) (L0 : List Tok) (hn : L0.length = n) (h1 : 1 ≤ n) (h256 : n ≤ 256) (hG : ∀ u ∈ L0, Good u) (w : World) (hb : Blk w g 60 (flat L0)) :
    Calls Yba.prog 12 #[.slice (some ⟨g, 0, none⟩) n n] w fun e w' => ∃ m L, e = .returned (.slice (some ⟨g, 0, none⟩) m n) ∧ Blk w' g 60 (flat L) ∧ L.length = n ∧ m ≤ n ∧ L.take m = mrg L0 ∧ w.grownBy w' (some g) := by
  by_cases h : n = 1
  · subst h
    exact merge_one g L0 hn w hb
  · exact merge_more g n L0 hn (by omega) h256 hG w hb
end Go.Proofs.Ybulkafpc
