/-
  CONTRACT of zzs1575cmk (15).
-/
import Derived.Test.YbulkafpcName
import Derived.Deep.RegionHeld3
namespace Go.Proofs.Ybulkafpc
open Go.RowKit
/-- a path as the law's argument holds it -/
structure Path where
  st : Int
  tag : Int
  svg : Int
  mth : Int
  pre : Int
  listing : Int
  selects : Int
  selTpl : Int
  templates : Int
  columns : Int
  point : Int
  frameset : Bool
  unsettled : Bool
  lost : Bool
def u8 (x : Int) : Prop := 0 ≤ x ∧ x < 256
def Path.ok (p : Path) : Prop := u8 p.st ∧ u8 p.tag ∧ u8 p.svg ∧ u8 p.mth ∧ u8 p.pre ∧ u8 p.listing ∧ u8 p.selects ∧ u8 p.selTpl ∧ u8 p.templates ∧ u8 p.columns ∧ u8 p.point
def pcells (p : Path) : List Value := [.int .u8 p.st, .int .u8 p.tag, .int .u8 p.svg, .int .u8 p.mth, .int .u8 p.pre, .int .u8 p.listing, .int .u8 p.selects, .int .u8 p.selTpl, .int .u8 p.templates, .int .u8 p.columns, .int .u8 p.point, .bool p.frameset, .bool p.unsettled, .bool p.lost]
def treeOf (p : Path) : Tree := ⟨p.svg, p.mth, (p.point % 3).toNat, p.lost, p.pre, p.listing, p.frameset, p.selects, p.selTpl, p.templates, p.unsettled, p.columns⟩
def mk (p : Path) : Tok := ⟨p.st % 3, (p.tag % 3).toNat, treeOf p⟩

theorem build60_0 (s : Int) (W : World) : (Instr.build 60 #[(0, .int .u8 s), (2, .agg (nm 0).toArray)]).run Yba.prog W = .ok (.agg (tokCells ⟨s, 0, zt.tree⟩).toArray) W := by kernel_rfl
theorem build60_1 (s : Int) (W : World) : (Instr.build 60 #[(0, .int .u8 s), (2, .agg (nm 1).toArray)]).run Yba.prog W = .ok (.agg (tokCells ⟨s, 1, zt.tree⟩).toArray) W := by kernel_rfl
theorem build60_2 (s : Int) (W : World) : (Instr.build 60 #[(0, .int .u8 s), (2, .agg (nm 2).toArray)]).run Yba.prog W = .ok (.agg (tokCells ⟨s, 2, zt.tree⟩).toArray) W := by kernel_rfl
theorem build60 (s : Int) (k : Nat) (hk : k < 3) (W : World) : (Instr.build 60 #[(0, .int .u8 s), (2, .agg (nm k).toArray)]).run Yba.prog W = .ok (.agg (tokCells ⟨s, k, zt.tree⟩).toArray) W := by
  have : k = 0 ∨ k = 1 ∨ k = 2 := by omega
  rcases this with hh | hh | hh <;> rw [hh]
  · exact build60_0 s W
  · exact build60_1 s W
  · exact build60_2 s W
theorem build58_0 (a b c d e f g h : Int) (x y z : Bool) (W : World) : (Instr.build 58 #[(0, .int .i64 a), (1, .int .i64 b), (4, .int .i64 c), (5, .int .i64 d), (7, .int .i64 e), (8, .int .i64 f), (9, .int .i64 g), (11, .int .i64 h), (2, .agg (nm 0).toArray), (6, .bool x), (10, .bool y), (3, .bool z)]).run Yba.prog W = .ok (.agg (treeCells ⟨a, b, 0, z, c, d, x, e, f, g, y, h⟩).toArray) W := by kernel_rfl
theorem build58_1 (a b c d e f g h : Int) (x y z : Bool) (W : World) : (Instr.build 58 #[(0, .int .i64 a), (1, .int .i64 b), (4, .int .i64 c), (5, .int .i64 d), (7, .int .i64 e), (8, .int .i64 f), (9, .int .i64 g), (11, .int .i64 h), (2, .agg (nm 1).toArray), (6, .bool x), (10, .bool y), (3, .bool z)]).run Yba.prog W = .ok (.agg (treeCells ⟨a, b, 1, z, c, d, x, e, f, g, y, h⟩).toArray) W := by kernel_rfl
theorem build58_2 (a b c d e f g h : Int) (x y z : Bool) (W : World) : (Instr.build 58 #[(0, .int .i64 a), (1, .int .i64 b), (4, .int .i64 c), (5, .int .i64 d), (7, .int .i64 e), (8, .int .i64 f), (9, .int .i64 g), (11, .int .i64 h), (2, .agg (nm 2).toArray), (6, .bool x), (10, .bool y), (3, .bool z)]).run Yba.prog W = .ok (.agg (treeCells ⟨a, b, 2, z, c, d, x, e, f, g, y, h⟩).toArray) W := by kernel_rfl
theorem build58 (a b c d e f g h : Int) (x y z : Bool) (k : Nat) (hk : k < 3) (W : World) : (Instr.build 58 #[(0, .int .i64 a), (1, .int .i64 b), (4, .int .i64 c), (5, .int .i64 d), (7, .int .i64 e), (8, .int .i64 f), (9, .int .i64 g), (11, .int .i64 h), (2, .agg (nm k).toArray), (6, .bool x), (10, .bool y), (3, .bool z)]).run Yba.prog W = .ok (.agg (treeCells ⟨a, b, k, z, c, d, x, e, f, g, y, h⟩).toArray) W := by
  have : k = 0 ∨ k = 1 ∨ k = 2 := by omega
  rcases this with hh | hh | hh <;> rw [hh]
  · exact build58_0 a b c d e f g h x y z W
  · exact build58_1 a b c d e f g h x y z W
  · exact build58_2 a b c d e f g h x y z W
/-- a struct's building and a store of a whole struct, kept whole: the walk's set folds them into these names before it would open them -/
def buildW (t : TypeId) (parts : Array (Nat × Value)) : Sem Value := Instr.build t parts
def storeW (t : TypeId) (p v : Value) : Sem Unit := Instr.storeAt t p v
theorem fold_build (t : TypeId) (parts : Array (Nat × Value)) : Instr.build t parts = buildW t parts := rfl
theorem fold_store (t : TypeId) (p v : Value) : Instr.storeAt t p v = storeW t p v := rfl
theorem store_run {W : World} {g o : Nat} {T ty : TypeId} {C cs : List Value} (hb : Blk W g T C) (hfit : o + cs.length ≤ C.length) (hi : (Yba.prog.info? ty).map (·.size) = some cs.length) (h1 : ∀ v ∈ cs, v.oneCell' = true) :
    (Instr.storeAt ty (.pointer (some ⟨g, o, none⟩)) (.agg cs.toArray)).run Yba.prog W = .ok () (W.setCells g o cs) := by
  have := run_storeAt_mid (P := Yba.prog) W g o ty cs.toArray (hb.there (by simpa using hfit)) (by simpa using hi) (all_oneCell_toArray h1)
  simpa using this
theorem keepS {B n : Nat} {W0 W : World} {x y : Value} (c0 : W0.cell? ⟨B, 0, none⟩ = some x) (c1 : W0.cell? ⟨B, 1, none⟩ = some y) (hn : n = W0.heap.size) (h : Below n W0 W) : W.cell? ⟨B, 0, none⟩ = some x ∧ W.cell? ⟨B, 1, none⟩ = some y ∧ Below n W0 W := by
  subst hn; exact ⟨cell_later h c0, cell_later h c1, h⟩
theorem cell_low {n : Nat} {w1 W : World} {b : Nat} {T : TypeId} {C : List Value} (h : Below n w1 W) (hb : Blk w1 b T C) (hn : b < n) (j : Nat) : W.cell? ⟨b, j, none⟩ = C[j]? := by
  have : Blk W b T C := by unfold Blk; rw [h.block b hn]; exact hb
  exact this.cell j
theorem cell_later_eq {w1 W : World} {b : Nat} {T : TypeId} {C : List Value} (h : Below w1.heap.size w1 W) (hb : Blk w1 b T C) (j : Nat) : W.cell? ⟨b, j, none⟩ = C[j]? := (hb.old h).cell j
theorem below_go {W0 W w2 : World} (b2 : Below W.heap.size W w2) (h : Below W0.heap.size W0 W) : Below W0.heap.size W0 w2 := h.trans (b2.mono h.size)
theorem below_al {W0 W : World} (o : Obj) (h : Below W0.heap.size W0 W) : Below W0.heap.size W0 (W.alloc o) := h.alloc h.size _
theorem below_set {n : Nat} {W0 W : World} {g o : Nat} {T : TypeId} {C cs : List Value} (hb : Blk W g T C) (hfit : o + cs.length ≤ C.length) (h : Below n W0 W) (hg : n ≤ g) : Below n W0 (W.setCells g o cs) :=
  h.grown (hb.stored hfit).2.1 (Nat.le_of_lt (Nat.lt_of_le_of_lt hg hb.lt)) (fun k hk => by cases hk; exact hg)
theorem fit60 (t u : Tok) : 0 + (tokCells t).length ≤ (tokCells u).length := by rw [tokCells_length, tokCells_length]; omega
theorem stA (t : Tok) (W : World) : (storeW 60 (.pointer (some ⟨W.heap.size, 0, none⟩)) (.agg (tokCells t).toArray)).run Yba.prog (W.alloc (.cells (tokCells zt).toArray 60)) = .ok () ((W.alloc (.cells (tokCells zt).toArray 60)).setCells W.heap.size 0 (tokCells t)) :=
  store_run (Blk.new W _ _) (fit60 _ _) (size60 _) (tok_one _)
theorem belowA (t : Tok) {W0 W : World} (h : Below W0.heap.size W0 W) : Below W0.heap.size W0 ((W.alloc (.cells (tokCells zt).toArray 60)).setCells W.heap.size 0 (tokCells t)) :=
  below_set (Blk.new W _ _) (fit60 _ _) (below_al _ h) h.size
theorem blkB {W0 w2 : World} (b2 : Below (W0.drew.alloc (.cells (tokCells zt).toArray 60)).heap.size (W0.drew.alloc (.cells (tokCells zt).toArray 60)) w2) : Blk w2 W0.heap.size 60 (tokCells zt) :=
  (Blk.new W0.drew (tokCells zt) 60).old b2
theorem stB (t : Tok) {g : Nat} {w2 : World} (b2 : Blk w2 g 60 (tokCells zt)) :
    (storeW 60 (.pointer (some ⟨g, 0, none⟩)) (.agg (tokCells t).toArray)).run Yba.prog w2 = .ok () (w2.setCells g 0 (tokCells t)) :=
  store_run b2 (fit60 _ _) (size60 _) (tok_one _)
attribute [local go_sem ↓] fold_build fold_store
set_option maxHeartbeats 1000000 in
set_option maxRecDepth 10000 in
/-- zzs1575cmk -/
theorem cmk_any (p : Path) (hp : p.ok) (w : World) :
    Calls Yba.prog 15 #[.agg (pcells p).toArray] w fun e w' => e = .returned (.agg (tokCells (mk p)).toArray) ∧ Below w.heap.size w w' := by
  obtain ⟨⟨a0, a1⟩, ⟨b0, b1⟩, ⟨h2a, h2b⟩, ⟨h3a, h3b⟩, ⟨h4a, h4b⟩, ⟨h5a, h5b⟩, ⟨h6a, h6b⟩, ⟨h7a, h7b⟩, ⟨h8a, h8b⟩, ⟨h9a, h9b⟩, ⟨e0, e1⟩⟩ := hp
  have hz := zv60
  have i47 : (Yba.prog.info? 47).map (·.size) = some (pcells p).toArray.size := by kernel_rfl
  go_enter Yba.func15, Yba.ntmps15
  go_upto_region 1 with (fail)
  have q0 : Blk ((w.alloc (.cells (pcells p).toArray 47)).alloc (.cells (tokCells zt).toArray 60)) w.heap.size 47 (pcells p) := (Blk.new w (pcells p) 47).old ((Below.refl _ _).alloc (Nat.le_refl _) _)
  have q1 : Blk ((w.alloc (.cells (pcells p).toArray 47)).alloc (.cells (tokCells zt).toArray 60)) (w.heap.size + 1) 60 (tokCells zt) := by
    have := Blk.new (w.alloc (.cells (pcells p).toArray 47)) (tokCells zt) 60
    simpa using this
  have bb : Below w.heap.size w ((w.alloc (.cells (pcells p).toArray 47)).alloc (.cells (tokCells zt).toArray 60)) := (((Below.refl _ w).alloc (Nat.le_refl _) _)).alloc (by simp) _
  have bz : ((w.alloc (.cells (pcells p).toArray 47)).alloc (.cells (tokCells zt).toArray 60)).heap.size = w.heap.size + 2 := by simp
  generalize ((w.alloc (.cells (pcells p).toArray 47)).alloc (.cells (tokCells zt).toArray 60)) = W0 at *
  go_cut [3] from 4 to 10 (fun s wx => ∃ g, s = .pointer (some ⟨g, 0, none⟩) ∧ W0.heap.size ≤ g ∧ Blk wx g 60 (tokCells ⟨p.st % 3, (p.tag % 3).toNat, zt.tree⟩) ∧ Below W0.heap.size W0 wx)
  case first =>
    have c0 : W0.cell? ⟨w.heap.size, 0, none⟩ = some (.int .u8 p.st) := q0.cell 0
    have c1 : W0.cell? ⟨w.heap.size, 1, none⟩ = some (.int .u8 p.tag) := q0.cell 1
    have hnm := cname_any p.tag b0 b1
    have ht : p.st.tmod 3 = p.st % 3 := Int.tmod_eq_emod_of_nonneg a0
    have hbd : ∀ W, (buildW 60 #[(0, .int .u8 (p.st.tmod 3)), (2, .agg (nm (p.tag % 3).toNat).toArray)]).run Yba.prog W = .ok (.agg (tokCells ⟨p.st % 3, (p.tag % 3).toNat, zt.tree⟩).toArray) W := by
      intro W; rw [ht]; exact build60 (p.st % 3) (p.tag % 3).toNat (by omega) W
    have hA := stA ⟨p.st % 3, (p.tag % 3).toNat, zt.tree⟩
    have kA := fun (W1 : World) (h : Below W0.drew.heap.size W0.drew W1) => belowA ⟨p.st % 3, (p.tag % 3).toNat, zt.tree⟩ (below_go h (below_drewN (Below.refl _ W0) 1))
    have hB := fun (W1 : World) (h : Blk W1 W0.heap.size 60 (tokCells zt)) => stB ⟨p.st % 3, (p.tag % 3).toNat, zt.tree⟩ h
    have KA : Hid (∀ (W1 : World), Below W0.drew.heap.size W0.drew W1 → Below W0.heap.size W0 ((W1.alloc (.cells (tokCells zt).toArray 60)).setCells W1.heap.size 0 (tokCells ⟨p.st % 3, (p.tag % 3).toNat, zt.tree⟩))) := kA
    have KB : Hid (∀ (W1 : World), Blk W1 W0.heap.size 60 (tokCells zt) → (storeW 60 (.pointer (some ⟨W0.heap.size, 0, none⟩)) (.agg (tokCells ⟨p.st % 3, (p.tag % 3).toNat, zt.tree⟩).toArray)).run Yba.prog W1 = .ok () (W1.setCells W0.heap.size 0 (tokCells ⟨p.st % 3, (p.tag % 3).toNat, zt.tree⟩))) := hB
    clear kA hB bz i47 ht
    go_region_held3 (fun W => W.cell? ⟨w.heap.size, 0, none⟩ = some (.int .u8 p.st) ∧ W.cell? ⟨w.heap.size, 1, none⟩ = some (.int .u8 p.tag) ∧ Below W0.heap.size W0 W)
      (first
        | (refine keepS c0 c1 rfl ?_; (try go_split_ands); first
            | assumption
            | (exact below_drewN (Below.refl _ W0) 1)
            | (exact below_go b2 (by assumption))
            | (exact KA.out _ b2)
            | (exact below_set hb2 (fit60 _ _) (by assumption) (Nat.le_refl _))
            | (exact below_al _ (by assumption))))
      (first
        | (go_at_call 22; refine (hnm _).mono ?_; rintro e w2 ⟨rfl, b2⟩; try (have hb2 := blkB b2; have hs2 := KB.out _ hb2)))
    · go_wp2_with fail
      go_meet
      have h1 := (Blk.new w2 (tokCells zt) 60).stored (fit60 ⟨p.st % 3, (p.tag % 3).toNat, zt.tree⟩ zt)
      rw [splice_all _ _ (by rw [tokCells_length, tokCells_length])] at h1
      exact ⟨w2.heap.size, rfl, b2.size, h1.1, KA.out _ b2⟩
    · go_wp2_with fail
      go_meet
      have h1 := hb2.stored (fit60 ⟨p.st % 3, (p.tag % 3).toNat, zt.tree⟩ zt)
      rw [splice_all _ _ (by rw [tokCells_length, tokCells_length])] at h1
      have hX := h1.1
      clear h1
      go_split_ands
      exact ⟨W0.heap.size, rfl, Nat.le_refl _, hX, by assumption⟩
  case rest =>
  obtain ⟨g, rfl, hg, bg, bW⟩ := hcut
  have bC : Blk wc w.heap.size 47 (pcells p) := q0.old bW
  have bR : Blk wc (w.heap.size + 1) 60 (tokCells zt) := q1.old bW
  have bT : Below w.heap.size w wc := bb.trans (bW.mono bb.size)
  have hgw : w.heap.size + 2 ≤ g := by omega
  revert bg bC bR bT
  generalize wc = w1
  intro bg bC bR bT
  clear bW q0 q1 bb hg bz W0
  go_upto_region 2 with (fail)
  go_cut [] from 11 to 45 (fun wx => Blk wx g 60 (tokCells (mk p)) ∧ Blk wx (w.heap.size + 1) 60 (tokCells zt) ∧ Below w.heap.size w wx)
  case first =>
    have hnm := cname_any p.point e0 e1
    have hbd : ∀ W, (buildW 58 #[(0, .int .i64 p.svg), (1, .int .i64 p.mth), (4, .int .i64 p.pre), (5, .int .i64 p.listing), (7, .int .i64 p.selects), (8, .int .i64 p.selTpl), (9, .int .i64 p.templates), (11, .int .i64 p.columns), (2, .agg (nm (p.point % 3).toNat).toArray), (6, .bool p.frameset), (10, .bool p.unsettled), (3, .bool p.lost)]).run Yba.prog W = .ok (.agg (treeCells (treeOf p)).toArray) W :=
      fun W => build58 p.svg p.mth p.pre p.listing p.selects p.selTpl p.templates p.columns p.frameset p.unsettled p.lost (p.point % 3).toNat (by omega) W
    have v0 : IntKind.i64.wrap p.svg = p.svg := by rw [IntKind.wrap_i64]; omega
    have v1 : IntKind.i64.wrap p.mth = p.mth := by rw [IntKind.wrap_i64]; omega
    have v2 : IntKind.i64.wrap p.pre = p.pre := by rw [IntKind.wrap_i64]; omega
    have v3 : IntKind.i64.wrap p.listing = p.listing := by rw [IntKind.wrap_i64]; omega
    have v4 : IntKind.i64.wrap p.selects = p.selects := by rw [IntKind.wrap_i64]; omega
    have v5 : IntKind.i64.wrap p.selTpl = p.selTpl := by rw [IntKind.wrap_i64]; omega
    have v6 : IntKind.i64.wrap p.templates = p.templates := by rw [IntKind.wrap_i64]; omega
    have v7 : IntKind.i64.wrap p.columns = p.columns := by rw [IntKind.wrap_i64]; omega
    have hS0 : ∀ W, Below (w.heap.size + 2) w1 W → (W.cell? ⟨w.heap.size, 2, none⟩ = some (.int .u8 p.svg) ∧ W.cell? ⟨w.heap.size, 3, none⟩ = some (.int .u8 p.mth) ∧ W.cell? ⟨w.heap.size, 4, none⟩ = some (.int .u8 p.pre) ∧ W.cell? ⟨w.heap.size, 5, none⟩ = some (.int .u8 p.listing) ∧ W.cell? ⟨w.heap.size, 6, none⟩ = some (.int .u8 p.selects) ∧ W.cell? ⟨w.heap.size, 7, none⟩ = some (.int .u8 p.selTpl) ∧ W.cell? ⟨w.heap.size, 8, none⟩ = some (.int .u8 p.templates) ∧ W.cell? ⟨w.heap.size, 9, none⟩ = some (.int .u8 p.columns) ∧ W.cell? ⟨w.heap.size, 10, none⟩ = some (.int .u8 p.point) ∧ W.cell? ⟨w.heap.size, 11, none⟩ = some (.bool p.frameset) ∧ W.cell? ⟨w.heap.size, 12, none⟩ = some (.bool p.unsettled) ∧ W.cell? ⟨w.heap.size, 13, none⟩ = some (.bool p.lost)) ∧ Below (w.heap.size + 2) w1 W := by
      intro W h
      have k := fun j => (cell_low h bC (by omega) j)
      exact ⟨⟨k 2, k 3, k 4, k 5, k 6, k 7, k 8, k 9, k 10, k 11, k 12, k 13⟩, h⟩
    have KS : Hid (∀ W, Below (w.heap.size + 2) w1 W → (W.cell? ⟨w.heap.size, 2, none⟩ = some (.int .u8 p.svg) ∧ W.cell? ⟨w.heap.size, 3, none⟩ = some (.int .u8 p.mth) ∧ W.cell? ⟨w.heap.size, 4, none⟩ = some (.int .u8 p.pre) ∧ W.cell? ⟨w.heap.size, 5, none⟩ = some (.int .u8 p.listing) ∧ W.cell? ⟨w.heap.size, 6, none⟩ = some (.int .u8 p.selects) ∧ W.cell? ⟨w.heap.size, 7, none⟩ = some (.int .u8 p.selTpl) ∧ W.cell? ⟨w.heap.size, 8, none⟩ = some (.int .u8 p.templates) ∧ W.cell? ⟨w.heap.size, 9, none⟩ = some (.int .u8 p.columns) ∧ W.cell? ⟨w.heap.size, 10, none⟩ = some (.int .u8 p.point) ∧ W.cell? ⟨w.heap.size, 11, none⟩ = some (.bool p.frameset) ∧ W.cell? ⟨w.heap.size, 12, none⟩ = some (.bool p.unsettled) ∧ W.cell? ⟨w.heap.size, 13, none⟩ = some (.bool p.lost)) ∧ Below (w.heap.size + 2) w1 W) := hS0
    have hst : ∀ W, Below w1.drew.heap.size w1.drew W → (storeW 58 (.pointer (some ⟨g, 139, none⟩)) (.agg (treeCells (treeOf p)).toArray)).run Yba.prog W = .ok () (W.setCells g 139 (treeCells (treeOf p))) := by
      intro W h
      exact store_run ((show Blk w1.drew g 60 _ from bg).old h) (by rw [treeCells_length, tokCells_length]; omega) (size58 _) (tree_one _)
    have KT : Hid (∀ W, Below w1.drew.heap.size w1.drew W → (storeW 58 (.pointer (some ⟨g, 139, none⟩)) (.agg (treeCells (treeOf p)).toArray)).run Yba.prog W = .ok () (W.setCells g 139 (treeCells (treeOf p)))) := hst
    have hlt := bg.lt
    have hC0 : ∀ W, Below w1.drew.heap.size w1.drew W → Below (w.heap.size + 2) w1 W := fun W h => (below_drewN (Below.refl (w.heap.size + 2) w1) 1).trans (h.mono (by show w.heap.size + 2 ≤ w1.heap.size; omega))
    have KC : Hid (∀ W, Below w1.drew.heap.size w1.drew W → Below (w.heap.size + 2) w1 W) := hC0
    have hD0 : ∀ W, Below w1.drew.heap.size w1.drew W → Below (w.heap.size + 2) w1 (W.setCells g 139 (treeCells (treeOf p))) := fun W h => below_set ((show Blk w1.drew g 60 _ from bg).old h) (by rw [treeCells_length, tokCells_length]; omega) (hC0 W h) hgw
    have KD : Hid (∀ W, Below w1.drew.heap.size w1.drew W → Below (w.heap.size + 2) w1 (W.setCells g 139 (treeCells (treeOf p)))) := hD0
    clear hS0 hst hC0 hD0 hlt i47
    go_region_held3 (fun W => (W.cell? ⟨w.heap.size, 2, none⟩ = some (.int .u8 p.svg) ∧ W.cell? ⟨w.heap.size, 3, none⟩ = some (.int .u8 p.mth) ∧ W.cell? ⟨w.heap.size, 4, none⟩ = some (.int .u8 p.pre) ∧ W.cell? ⟨w.heap.size, 5, none⟩ = some (.int .u8 p.listing) ∧ W.cell? ⟨w.heap.size, 6, none⟩ = some (.int .u8 p.selects) ∧ W.cell? ⟨w.heap.size, 7, none⟩ = some (.int .u8 p.selTpl) ∧ W.cell? ⟨w.heap.size, 8, none⟩ = some (.int .u8 p.templates) ∧ W.cell? ⟨w.heap.size, 9, none⟩ = some (.int .u8 p.columns) ∧ W.cell? ⟨w.heap.size, 10, none⟩ = some (.int .u8 p.point) ∧ W.cell? ⟨w.heap.size, 11, none⟩ = some (.bool p.frameset) ∧ W.cell? ⟨w.heap.size, 12, none⟩ = some (.bool p.unsettled) ∧ W.cell? ⟨w.heap.size, 13, none⟩ = some (.bool p.lost)) ∧ Below (w.heap.size + 2) w1 W)
      (first
        | (refine KS.out _ ?_; first
            | (exact below_drewN (Below.refl _ w1) 1)
            | (exact KC.out _ b2)
            | (exact KD.out _ b2)))
      (first
        | (go_at_call 22; refine (hnm _).mono ?_; rintro e w2 ⟨rfl, b2⟩; (have hs2 := KT.out _ b2)))
    go_wp2_with fail
    go_meet
    have bg2 := (show Blk w1.drew g 60 _ from bg).old b2
    have bR2 := (show Blk w1.drew (w.heap.size + 1) 60 _ from bR).old b2
    have h1 := bg2.stored (o := 139) (cs := treeCells (treeOf p)) (by rw [treeCells_length, tokCells_length]; omega)
    refine ⟨?_, bR2.other h1.2.1 (by simp; omega), ?_⟩
    · have h2 := h1.1
      rw [show tokCells ⟨p.st % 3, (p.tag % 3).toNat, zt.tree⟩ = headCells (p.st % 3) (p.tag % 3).toNat ++ treeCells zt.tree from rfl, splice_tail _ _ _ _ (headCells_length _ _) (by rw [treeCells_length, treeCells_length])] at h2
      exact h2
    · exact bT.trans ((KD.out _ b2).mono (by omega))
  case rest =>
  obtain ⟨k1, k2, k3⟩ := hcut
  revert k1 k2 k3
  generalize wc = w3
  intro k1 k2 k3
  have r1 := k1.range (A := []) (B := []) (cs := tokCells (mk p)) (o := 0) (by simp) rfl
  clear bg bC bR bT i47
  go_wp2_with (first
    | (refine wpList_load_blk (by rfl) 60 _ (by rfl) g 0 (by rfl) (tokCells (mk p)) _ r1 Yba.underlying60 rfl (size60 _) ?_)
    | (refine wpList_store_blk (by rfl) 60 _ _ (by rfl) (w.heap.size + 1) 0 (tokCells (mk p)) (by rfl) (by rfl) 60 (tokCells zt) k2 (fit60 _ _) (size60 _) (tok_one _) ?_; intro W2 hn2 hg2 hs2; refine Stopped.out ?_))
  rw [splice_all _ _ (by rw [tokCells_length, tokCells_length])] at hn2
  have b2 : Below w.heap.size w W2 := k3.grown hg2 k3.size (fun k hk => by simp at hk; omega)
  unfold Stopped
  go_wp2
  (try simp only [Exit.inBlock, Exit.then])
  refine bodyPost_ret (results_cell_row (by rfl) _ _ (w.heap.size + 1) 60 (tokCells (mk p)).toArray (0, 0) _ (by rfl) hn2 Yba.underlying60 (by rfl) (size60 _)) (by rfl) ?_
  exact ⟨rfl, b2⟩
end Go.Proofs.Ybulkafpc
