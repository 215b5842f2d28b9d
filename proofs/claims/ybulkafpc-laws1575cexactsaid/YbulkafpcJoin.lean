/-
  CONTRACT of (*treeGuess).join (21), and of (*shortName).reset (25).
-/
import Derived.Test.YbulkafpcIdx
import Derived.Outline
import Derived.BigRegion
import Derived.Deep.DeepCutAuto
import Derived.Deep.CutBlock
namespace Go.Proofs.Ybulkafpc
open Go.RowKit

theorem Blk.set {w : World} {g : Nat} {T : TypeId} {C : List Value} (h : Blk w g T C) (o : Nat) (v : Value) : Blk (w.setCell ⟨g, o, none⟩ v) g T (C.set o v) ∧ w.grownBy (w.setCell ⟨g, o, none⟩ v) (some g) ∧ (w.setCell ⟨g, o, none⟩ v).heap.size = w.heap.size := by
  unfold Blk at h
  rw [setCell_eq_setRow w g o C.toArray T (0, 0) v h]
  refine ⟨?_, ⟨rfl, rfl, rfl, by simp [World.setRow], fun k _ hk => setRow_other w g k _ (fun e => hk (by rw [e]))⟩, by simp [World.setRow]⟩
  unfold Blk
  rw [setRow_heap w g _ _ T _ h]
  simp
theorem set_mid (A cs B : List Value) (k og : Nat) (v : Value) (hA : A.length = og) (hk : k < cs.length) : (A ++ (cs ++ B)).set (og + k) v = A ++ (cs.set k v ++ B) := by
  subst hA
  rw [List.set_append_right _ _ (by omega), Nat.add_sub_cancel_left, List.set_append_left _ _ hk]
/-- one field of a tree that lies in a block known whole -/
theorem tree_put {w : World} {g og : Nat} {T : Tree} {A B : List Value} (hb : Blk w g 60 (A ++ (treeCells T ++ B))) (hA : A.length = og) (k : Nat) (hk : k < 29) (v : Value) (T' : Tree) (h : (treeCells T).set k v = treeCells T') :
    Blk (w.setCell ⟨g, og + k, none⟩ v) g 60 (A ++ (treeCells T' ++ B)) ∧ w.grownBy (w.setCell ⟨g, og + k, none⟩ v) (some g) := by
  have := hb.set (og + k) v
  rw [set_mid A _ B k og v hA (by rw [treeCells_length]; exact hk), h] at this
  exact ⟨this.1, this.2.1⟩
theorem grown_trans {w1 w2 w3 : World} {r : Option Nat} (h1 : w1.grownBy w2 r) (h2 : w2.grownBy w3 r) : w1.grownBy w3 r :=
  ⟨h2.os.trans h1.os, h2.tape.trans h1.tape, h2.output.trans h1.output, Nat.le_trans h1.size h2.size, fun k hk hr => (h2.block k (Nat.lt_of_lt_of_le hk h1.size) hr).trans (h1.block k hk hr)⟩
theorem put_svg (T : Tree) (x : Int) : (treeCells T).set 0 (.int .i64 x) = treeCells { T with svg := x } := by simp [treeCells]
theorem put_mth (T : Tree) (x : Int) : (treeCells T).set 1 (.int .i64 x) = treeCells { T with mth := x } := by simp [treeCells]
theorem put_lost (T : Tree) (x : Bool) : (treeCells T).set 20 (.bool x) = treeCells { T with lost := x } := by simp [treeCells, nm_length]
theorem put_pre (T : Tree) (x : Int) : (treeCells T).set 21 (.int .i64 x) = treeCells { T with pre := x } := by simp [treeCells, nm_length]
theorem put_listing (T : Tree) (x : Int) : (treeCells T).set 22 (.int .i64 x) = treeCells { T with listing := x } := by simp [treeCells, nm_length]
theorem put_frameset (T : Tree) (x : Bool) : (treeCells T).set 23 (.bool x) = treeCells { T with frameset := x } := by simp [treeCells, nm_length]
theorem put_selects (T : Tree) (x : Int) : (treeCells T).set 24 (.int .i64 x) = treeCells { T with selects := x } := by simp [treeCells, nm_length]
theorem put_selTpl (T : Tree) (x : Int) : (treeCells T).set 25 (.int .i64 x) = treeCells { T with selTpl := x } := by simp [treeCells, nm_length]
theorem put_templates (T : Tree) (x : Int) : (treeCells T).set 26 (.int .i64 x) = treeCells { T with templates := x } := by simp [treeCells, nm_length]
theorem put_unsettled (T : Tree) (x : Bool) : (treeCells T).set 27 (.bool x) = treeCells { T with unsettled := x } := by simp [treeCells, nm_length]
theorem put_columns (T : Tree) (x : Int) : (treeCells T).set 28 (.int .i64 x) = treeCells { T with columns := x } := by simp [treeCells, nm_length]

def imax (a b : Int) : Int := if a < b then b else a
/-- the tree lies in block g, all else but g as in w -/
def TreeIn (w : World) (g : Nat) (A B : List Value) (W : World) (T : Tree) : Prop := Blk W g 60 (A ++ (treeCells T ++ B)) ∧ w.grownBy W (some g)
theorem TreeIn.range {w W : World} {g og : Nat} {A B : List Value} {T : Tree} (h : TreeIn w g A B W T) (hA : A.length = og) : W.rangeAt g og (treeCells T) := h.1.range rfl hA
theorem TreeIn.put {w W : World} {g og : Nat} {A B : List Value} {T : Tree} (h : TreeIn w g A B W T) (hA : A.length = og) (k : Nat) (hk : k < 29) (v : Value) (T' : Tree) (e : (treeCells T).set k v = treeCells T') : TreeIn w g A B (W.setCell ⟨g, og + k, none⟩ v) T' :=
  have p := tree_put h.1 hA k hk v T' e
  ⟨p.1, grown_trans h.2 p.2⟩
theorem TreeIn.drew {w W : World} {g : Nat} {A B : List Value} {T : Tree} (h : TreeIn w g A B W T) : TreeIn w g A B W.drew T := ⟨h.1, grown_trans h.2 ⟨rfl, rfl, rfl, Nat.le_refl _, fun _ _ _ => rfl⟩⟩
theorem TreeIn.there {w W : World} {g : Nat} {A B : List Value} {T : Tree} (h : TreeIn w g A B W T) {b TB : Nat} {CB : List Value} (hb : Blk w b TB CB) (hne : b ≠ g) : Blk W b TB CB := hb.other h.2 (by simpa using hne)


theorem imax_fold (a b : Int) : (if a < b then b else a) = imax a b := rfl
def jcols (g o : Int) : Int := if g = 0 ∨ (0 < o ∧ o < g) then o else g
def j1 (T U : Tree) : Tree := { T with svg := imax T.svg U.svg, mth := imax T.mth U.mth }
def j2 (T U : Tree) : Tree := { T with pre := imax T.pre U.pre, listing := imax T.listing U.listing }
def j3 (T U : Tree) : Tree := { T with frameset := T.frameset || U.frameset }
def j4 (T U : Tree) : Tree := { T with selects := imax T.selects U.selects, selTpl := imax T.selTpl U.selTpl }
def j5 (T U : Tree) : Tree := { T with templates := imax T.templates U.templates, unsettled := T.unsettled || U.unsettled }
def j6 (T U : Tree) : Tree := { T with columns := jcols T.columns U.columns }
def j7 (T U : Tree) : Tree := if T.point = U.point then T else { T with lost := true, point := 0 }
def j8 (T U : Tree) : Tree := { T with lost := T.lost || U.lost }
def joinT (T U : Tree) : Tree := j8 (j7 (j6 (j5 (j4 (j3 (j2 (j1 T U) U) U) U) U) U) U) U

theorem nm51 (k : Nat) : (Yba.prog.info? 51).map (·.size) = some (nm k).length := by rw [nm_length]; kernel_rfl
theorem splice_mid {α : Type} (A X B cs : List α) (o : Nat) (hA : A.length = o) (h : cs.length = X.length) : splice (A ++ (X ++ B)) o cs = A ++ (cs ++ B) := by
  subst hA
  simp [splice, h]
theorem put_point (T : Tree) (A B : List Value) (og k : Nat) (hA : A.length = og) : splice (A ++ (treeCells T ++ B)) (og + 2) (nm k) = A ++ (treeCells { T with point := k } ++ B) := by
  have := splice_mid (A ++ [.int .i64 T.svg, .int .i64 T.mth]) (nm T.point) ([.bool T.lost, .int .i64 T.pre, .int .i64 T.listing, .bool T.frameset, .int .i64 T.selects, .int .i64 T.selTpl, .int .i64 T.templates, .bool T.unsettled, .int .i64 T.columns] ++ B) (nm k) (og + 2) (by simp [hA]) (by simp [nm_length])
  simpa [treeCells] using this
theorem tree_point (T : Tree) : treeCells T = [.int .i64 T.svg, .int .i64 T.mth] ++ (nm T.point ++ [.bool T.lost, .int .i64 T.pre, .int .i64 T.listing, .bool T.frameset, .int .i64 T.selects, .int .i64 T.selTpl, .int .i64 T.templates, .bool T.unsettled, .int .i64 T.columns]) := by simp [treeCells]
theorem TreeIn.name {w W : World} {g og : Nat} {A B : List Value} {T : Tree} (h : TreeIn w g A B W T) (hA : A.length = og) : W.rangeAt g (og + 2) (nm T.point) :=
  h.1.range (A := A ++ [.int .i64 T.svg, .int .i64 T.mth]) (B := [.bool T.lost, .int .i64 T.pre, .int .i64 T.listing, .bool T.frameset, .int .i64 T.selects, .int .i64 T.selTpl, .int .i64 T.templates, .bool T.unsettled, .int .i64 T.columns] ++ B) (by simp [treeCells]) (by simp [hA])
theorem quiet_load_by {P : Program} {o : Oper} {a : Act} {C : World → Prop} {K : Act → Prop} (ty : TypeId) (x : Operand) (ho : o.op = .load ty x) (p v : Value) (hx : a.eval x = p) (h : ∀ w, C w → (Instr.loadAt ty p).run P w = .ok v w) (hk : K (a.put o.dst v)) : o.quiet P a C K :=
  ⟨v, fun w hw => by
    unfold Oper.quietAt execOp
    simp only [ho, hx, Sem.run_bind, h w hw, Result.andThen_ok, Sem.run_pure]
    exact ⟨rfl, rfl⟩, hk⟩
theorem quiet_bin_by {P : Program} {o : Oper} {a : Act} {C : World → Prop} {K : Act → Prop} (b : BinOp) (ty : TypeId) (x y : Operand) (rt : TypeId) (ho : o.op = .binOp b ty x y rt) (vx vy r : Value) (hx : a.eval x = vx) (hy : a.eval y = vy)
    (hg : ∀ w, C w → (eqGuard b ty x y vx vy).run P w = .ok () w) (h : ∀ w, C w → (binOp b ty vx vy).run P w = .ok r w) (hk : K (a.put o.dst r)) : o.quiet P a C K :=
  ⟨r, fun w hw => by
    unfold Oper.quietAt execOp
    simp only [ho, hx, hy, Sem.run_bind, hg w hw, h w hw, Result.andThen_ok, Sem.run_pure]
    exact ⟨rfl, rfl⟩, hk⟩
theorem zv51 (W : World) : (zeroValue 51).run Yba.prog W = .ok (.agg (nm 0).toArray) W := by kernel_rfl
set_option maxHeartbeats 400000 in
set_option maxRecDepth 10000 in
theorem reset_any (g o : Nat) (T : TypeId) (C : List Value) (w : World) (hb : Blk w g T C) (hfit : o + 18 ≤ C.length) :
    Calls Yba.prog 25 #[.pointer (some ⟨g, o, none⟩)] w fun e w' => e = .returned (.tuple #[]) ∧ Blk w' g T (splice C o (nm 0)) ∧ w.grownBy w' (some g) := by
  have hz := zv51
  go_enter Yba.func25, Yba.ntmps25
  go_wp2_with (first
    | (refine wpList_store_blk (by rfl) 51 _ _ (by rfl) g o (nm 0) (by rfl) (by rfl) T C hb (by rw [nm_length]; exact hfit) (nm51 0) (nm_one 0) ?_; intro W2 hn2 hg2 hs2))
  go_end0
  exact ⟨rfl, hn2, hg2⟩

set_option maxHeartbeats 4000000 in
set_option maxRecDepth 10000 in
theorem join_any (g og b ob TB : Nat) (hne : b ≠ g) (T U : Tree) (A B D E : List Value) (hA : A.length = og) (hD : D.length = ob) (hT : T.point < 3) (hU : U.point < 3) (w : World)
   (hg : Blk w g 60 (A ++ (treeCells T ++ B))) (hb : Blk w b TB (D ++ (treeCells U ++ E))) :
    Calls Yba.prog 21 #[.pointer (some ⟨g, og, none⟩), .pointer (some ⟨b, ob, none⟩)] w fun e w' => e = .returned (.tuple #[]) ∧ Blk w' g 60 (A ++ (treeCells (joinT T U) ++ B)) ∧ w.grownBy w' (some g) := by
  have _hne' : g ≠ b := Ne.symm hne
  have z0 : TreeIn w g A B w T := ⟨hg, World.grownBy.refl _ _⟩
  go_enter Yba.func21, Yba.ntmps21
  go_upto_region 0 with (fail)
  go_cut [] from 4 to 27 (fun wx => TreeIn w g A B wx (j1 T U))
  case first =>
    have rg := z0.range hA
    have ru := (z0.there hb hne).range rfl hD
    have f := fun j => z0.1.frozen j
    have c0 : w.cell? ⟨g, og, none⟩ = some (.int .i64 (T).svg) := range_cell rg 0 (tc _).1
    have d0 : w.cell? ⟨b, ob, none⟩ = some (.int .i64 U.svg) := range_cell ru 0 (tc _).1
    have c1 : w.cell? ⟨g, og + 1, none⟩ = some (.int .i64 (T).mth) := range_cell rg 1 (tc _).2.1
    have d1 : w.cell? ⟨b, ob + 1, none⟩ = some (.int .i64 U.mth) := range_cell ru 1 (tc _).2.1
    go_region
    simp only [imax_fold]
    go_wp2_with fail
    go_meet
    exact (((z0.put hA 0 (by omega) _ _ (put_svg _ (imax (T).svg U.svg))).put hA 1 (by omega) _ (j1 T U) (put_mth _ (imax (T).mth U.mth)))).drew
  case rest =>
  have z1 : TreeIn w g A B wc (j1 T U) := hcut
  clear hcut z0
  revert z1
  generalize wc = w1
  intro z1
  go_upto_region 1 with (fail)
  go_cut [] from 28 to 51 (fun wx => TreeIn w g A B wx (j2 (j1 T U) U))
  case first =>
    have rg := z1.range hA
    have ru := (z1.there hb hne).range rfl hD
    have f := fun j => z1.1.frozen j
    have c0 : w1.cell? ⟨g, og + 21, none⟩ = some (.int .i64 (j1 T U).pre) := range_cell rg 21 (tc _).2.2.2.1
    have d0 : w1.cell? ⟨b, ob + 21, none⟩ = some (.int .i64 U.pre) := range_cell ru 21 (tc _).2.2.2.1
    have c1 : w1.cell? ⟨g, og + 22, none⟩ = some (.int .i64 (j1 T U).listing) := range_cell rg 22 (tc _).2.2.2.2.1
    have d1 : w1.cell? ⟨b, ob + 22, none⟩ = some (.int .i64 U.listing) := range_cell ru 22 (tc _).2.2.2.2.1
    go_region
    simp only [imax_fold]
    go_wp2_with fail
    go_meet
    exact (((z1.put hA 21 (by omega) _ _ (put_pre _ (imax (j1 T U).pre U.pre))).put hA 22 (by omega) _ (j2 (j1 T U) U) (put_listing _ (imax (j1 T U).listing U.listing)))).drew
  case rest =>
  have z2 : TreeIn w g A B wc (j2 (j1 T U) U) := hcut
  clear hcut z1
  revert z2
  generalize wc = w2
  intro z2
  go_upto_region 2 with (fail)
  go_cut [] from 52 to 64 (fun wx => TreeIn w g A B wx (j3 (j2 (j1 T U) U) U))
  case first =>
    have rg := z2.range hA
    have ru := (z2.there hb hne).range rfl hD
    have f := fun j => z2.1.frozen j
    have c0 : w2.cell? ⟨g, og + 23, none⟩ = some (.bool (j2 (j1 T U) U).frameset) := range_cell rg 23 (tc _).2.2.2.2.2.1
    have d0 : w2.cell? ⟨b, ob + 23, none⟩ = some (.bool U.frameset) := range_cell ru 23 (tc _).2.2.2.2.2.1
    rcases Bool.eq_false_or_eq_true (j2 (j1 T U) U).frameset with hf | hf
    · rw [hf] at c0
      go_wp2_with fail
      go_meet
      exact z2.put hA 23 (by omega) _ _ ((put_frameset _ true).trans (by simp [j3, hf]))
    · rw [hf] at c0
      go_wp2_with fail
      go_meet
      exact z2.put hA 23 (by omega) _ _ ((put_frameset _ U.frameset).trans (by simp [j3, hf]))
  case rest =>
  have z3 : TreeIn w g A B wc (j3 (j2 (j1 T U) U) U) := hcut
  clear hcut z2
  revert z3
  generalize wc = w3
  intro z3
  go_upto_region 3 with (fail)
  go_cut [] from 65 to 88 (fun wx => TreeIn w g A B wx (j4 (j3 (j2 (j1 T U) U) U) U))
  case first =>
    have rg := z3.range hA
    have ru := (z3.there hb hne).range rfl hD
    have f := fun j => z3.1.frozen j
    have c0 : w3.cell? ⟨g, og + 24, none⟩ = some (.int .i64 (j3 (j2 (j1 T U) U) U).selects) := range_cell rg 24 (tc _).2.2.2.2.2.2.1
    have d0 : w3.cell? ⟨b, ob + 24, none⟩ = some (.int .i64 U.selects) := range_cell ru 24 (tc _).2.2.2.2.2.2.1
    have c1 : w3.cell? ⟨g, og + 25, none⟩ = some (.int .i64 (j3 (j2 (j1 T U) U) U).selTpl) := range_cell rg 25 (tc _).2.2.2.2.2.2.2.1
    have d1 : w3.cell? ⟨b, ob + 25, none⟩ = some (.int .i64 U.selTpl) := range_cell ru 25 (tc _).2.2.2.2.2.2.2.1
    go_region
    simp only [imax_fold]
    go_wp2_with fail
    go_meet
    exact (((z3.put hA 24 (by omega) _ _ (put_selects _ (imax (j3 (j2 (j1 T U) U) U).selects U.selects))).put hA 25 (by omega) _ (j4 (j3 (j2 (j1 T U) U) U) U) (put_selTpl _ (imax (j3 (j2 (j1 T U) U) U).selTpl U.selTpl)))).drew
  case rest =>
  have z4 : TreeIn w g A B wc (j4 (j3 (j2 (j1 T U) U) U) U) := hcut
  clear hcut z3
  revert z4
  generalize wc = w4
  intro z4
  go_upto_region 4 with (fail)
  go_cut [] from 89 to 113 (fun wx => TreeIn w g A B wx (j5 (j4 (j3 (j2 (j1 T U) U) U) U) U))
  case first =>
    have rg := z4.range hA
    have ru := (z4.there hb hne).range rfl hD
    have f := fun j => z4.1.frozen j
    have c0 : w4.cell? ⟨g, og + 26, none⟩ = some (.int .i64 (j4 (j3 (j2 (j1 T U) U) U) U).templates) := range_cell rg 26 (tc _).2.2.2.2.2.2.2.2.1
    have d0 : w4.cell? ⟨b, ob + 26, none⟩ = some (.int .i64 U.templates) := range_cell ru 26 (tc _).2.2.2.2.2.2.2.2.1
    have c1 : w4.cell? ⟨g, og + 27, none⟩ = some (.bool (j4 (j3 (j2 (j1 T U) U) U) U).unsettled) := range_cell rg 27 (tc _).2.2.2.2.2.2.2.2.2.1
    have d1 : w4.cell? ⟨b, ob + 27, none⟩ = some (.bool U.unsettled) := range_cell ru 27 (tc _).2.2.2.2.2.2.2.2.2.1
    rcases Bool.eq_false_or_eq_true (j4 (j3 (j2 (j1 T U) U) U) U).unsettled with hf | hf
    · rw [hf] at c1
      go_region
      simp only [imax_fold]
      go_wp2_with fail
      go_meet
      exact (((z4.put hA 26 (by omega) _ _ (put_templates _ (imax (j4 (j3 (j2 (j1 T U) U) U) U).templates U.templates))).put hA 27 (by omega) _ (j5 (j4 (j3 (j2 (j1 T U) U) U) U) U) ((put_unsettled _ true).trans (by simp [j5, hf])))).drew
    · rw [hf] at c1
      go_region
      simp only [imax_fold]
      go_wp2_with fail
      go_meet
      exact (((z4.put hA 26 (by omega) _ _ (put_templates _ (imax (j4 (j3 (j2 (j1 T U) U) U) U).templates U.templates))).put hA 27 (by omega) _ (j5 (j4 (j3 (j2 (j1 T U) U) U) U) U) ((put_unsettled _ U.unsettled).trans (by simp [j5, hf])))).drew
  case rest =>
  have z5 : TreeIn w g A B wc (j5 (j4 (j3 (j2 (j1 T U) U) U) U) U) := hcut
  clear hcut z4
  revert z5
  generalize wc = w5
  intro z5
  go_upto_region 5 with (fail)
  go_cut [136] from 114 to 135 (fun c wx => c = .bool (decide ((j5 (j4 (j3 (j2 (j1 T U) U) U) U) U).columns = 0 ∨ (0 < U.columns ∧ U.columns < (j5 (j4 (j3 (j2 (j1 T U) U) U) U) U).columns))) ∧ TreeIn w g A B wx (j5 (j4 (j3 (j2 (j1 T U) U) U) U) U))
  case first =>
    have rg := z5.range hA
    have ru := (z5.there hb hne).range rfl hD
    have c0 : w5.cell? ⟨g, og + 28, none⟩ = some (.int .i64 (j5 (j4 (j3 (j2 (j1 T U) U) U) U) U).columns) := range_cell rg 28 (tc _).2.2.2.2.2.2.2.2.2.2
    have d0 : w5.cell? ⟨b, ob + 28, none⟩ = some (.int .i64 U.columns) := range_cell ru 28 (tc _).2.2.2.2.2.2.2.2.2.2
    have y : ∀ n, TreeIn w g A B (w5.drewN n) (j5 (j4 (j3 (j2 (j1 T U) U) U) U) U) := fun n => ⟨z5.1.drewN n, grown_trans z5.2 ⟨rfl, rfl, rfl, Nat.le_refl _, fun _ _ _ => rfl⟩⟩
    generalize hx : (j5 (j4 (j3 (j2 (j1 T U) U) U) U) U).columns = x at c0
    generalize ho : U.columns = o at d0
    have Hx : Hid ((j5 (j4 (j3 (j2 (j1 T U) U) U) U) U).columns = x) := hx
    have Ho : Hid (U.columns = o) := ho
    clear hx ho
    by_cases h1 : x = 0
    · have e1 : (x == 0) = true := by simp [h1]
      have ed : decide (x = 0 ∨ (0 < o ∧ o < x)) = true := by simp [h1]
      go_quiet (fail)
      go_wp2_with fail
      go_meet
      exact ⟨by rw [Hx.out, Ho.out, ed], y _⟩
    · have e1 : (x == 0) = false := by simp [h1]
      by_cases h2 : 0 < o
      · have e2 : decide (0 < o) = true := by simp [h2]
        by_cases h3 : o < x
        · have e3 : decide (o < x) = true := by simp [h3]
          have ed : decide (x = 0 ∨ (0 < o ∧ o < x)) = true := by simp [h2, h3]
          go_quiet (fail)
          go_wp2_with fail
          go_meet
          exact ⟨by rw [Hx.out, Ho.out, ed], y _⟩
        · have e3 : decide (o < x) = false := by simp [h3]
          have ed : decide (x = 0 ∨ (0 < o ∧ o < x)) = false := by simp [h1, h3]
          go_quiet (fail)
          go_wp2_with fail
          go_meet
          exact ⟨by rw [Hx.out, Ho.out, ed], y _⟩
      · have e2 : decide (0 < o) = false := by simp [h2]
        have ed : decide (x = 0 ∨ (0 < o ∧ o < x)) = false := by simp [h1, h2]
        go_quiet (fail)
        go_wp2_with fail
        go_meet
        exact ⟨by rw [Hx.out, Ho.out, ed], y _⟩
  case rest =>
  obtain ⟨rfl, z6⟩ := hcut
  clear z5
  revert z6
  generalize wc = w6
  intro z6
  go_upto_if 136 with (fail)
  go_cut [] from 136 to 143 (fun wx => TreeIn w g A B wx (j6 (j5 (j4 (j3 (j2 (j1 T U) U) U) U) U) U))
  case first =>
    have rg := z6.range hA
    have ru := (z6.there hb hne).range rfl hD
    have f := fun j => z6.1.frozen j
    have c0 : w6.cell? ⟨g, og + 28, none⟩ = some (.int .i64 (j5 (j4 (j3 (j2 (j1 T U) U) U) U) U).columns) := range_cell rg 28 (tc _).2.2.2.2.2.2.2.2.2.2
    have d0 : w6.cell? ⟨b, ob + 28, none⟩ = some (.int .i64 U.columns) := range_cell ru 28 (tc _).2.2.2.2.2.2.2.2.2.2
    by_cases h1 : (j5 (j4 (j3 (j2 (j1 T U) U) U) U) U).columns = 0 ∨ (0 < U.columns ∧ U.columns < (j5 (j4 (j3 (j2 (j1 T U) U) U) U) U).columns)
    · have e1 : decide ((j5 (j4 (j3 (j2 (j1 T U) U) U) U) U).columns = 0 ∨ (0 < U.columns ∧ U.columns < (j5 (j4 (j3 (j2 (j1 T U) U) U) U) U).columns)) = true := decide_eq_true h1
      rw [e1]
      have e2 : jcols (j5 (j4 (j3 (j2 (j1 T U) U) U) U) U).columns U.columns = U.columns := if_pos h1
      have H2 : Hid (jcols (j5 (j4 (j3 (j2 (j1 T U) U) U) U) U).columns U.columns = U.columns) := e2
      clear h1 e1 e2
      go_wp2_with fail
      go_meet
      exact z6.put hA 28 (by omega) _ _ ((put_columns _ U.columns).trans (by unfold j6; rw [H2.out]))
    · have e1 : decide ((j5 (j4 (j3 (j2 (j1 T U) U) U) U) U).columns = 0 ∨ (0 < U.columns ∧ U.columns < (j5 (j4 (j3 (j2 (j1 T U) U) U) U) U).columns)) = false := decide_eq_false h1
      rw [e1]
      have e2 : jcols (j5 (j4 (j3 (j2 (j1 T U) U) U) U) U).columns U.columns = (j5 (j4 (j3 (j2 (j1 T U) U) U) U) U).columns := if_neg h1
      have H2 : Hid (jcols (j5 (j4 (j3 (j2 (j1 T U) U) U) U) U).columns U.columns = (j5 (j4 (j3 (j2 (j1 T U) U) U) U) U).columns) := e2
      clear h1 e1 e2
      go_wp2_with fail
      go_meet
      have e6 : j6 (j5 (j4 (j3 (j2 (j1 T U) U) U) U) U) U = j5 (j4 (j3 (j2 (j1 T U) U) U) U) U := by
        generalize j5 (j4 (j3 (j2 (j1 T U) U) U) U) U = S at H2
        unfold j6; rw [H2.out]
      rw [e6]; exact z6
  case rest =>
  have z7 : TreeIn w g A B wc (j6 (j5 (j4 (j3 (j2 (j1 T U) U) U) U) U) U) := hcut
  clear hcut z6
  revert z7
  generalize wc = w7
  intro z7
  go_upto_region 7 with (fail)
  go_cut [152] from 144 to 151 (fun c wx => c = .bool (decide (T.point ≠ U.point)) ∧ TreeIn w g A B wx (j6 (j5 (j4 (j3 (j2 (j1 T U) U) U) U) U) U))
  case first =>
    have y : ∀ n, TreeIn w g A B (w7.drewN n) (j6 (j5 (j4 (j3 (j2 (j1 T U) U) U) U) U) U) := fun n => ⟨z7.1.drewN n, grown_trans z7.2 ⟨rfl, rfl, rfl, Nat.le_refl _, fun _ _ _ => rfl⟩⟩
    have l1 : ∀ n, (Instr.loadAt 51 (.pointer (some ⟨g, og + 2, none⟩))).run Yba.prog (w7.drewN n) = .ok (.agg (nm T.point).toArray) (w7.drewN n) := fun n => run_loadAt_mid _ g (og + 2) 51 (nm T.point) _ ((y n).name hA) Yba.underlying51 rfl (nm51 _)
    have l2 : ∀ n, (Instr.loadAt 51 (.pointer (some ⟨b, ob + 2, none⟩))).run Yba.prog (w7.drewN n) = .ok (.agg (nm U.point).toArray) (w7.drewN n) := fun n => run_loadAt_mid _ b (ob + 2) 51 (nm U.point) _ (by
        have := (y n).there hb hne
        exact this.range (A := D ++ [.int .i64 U.svg, .int .i64 U.mth]) (B := [.bool U.lost, .int .i64 U.pre, .int .i64 U.listing, .bool U.frameset, .int .i64 U.selects, .int .i64 U.selTpl, .int .i64 U.templates, .bool U.unsettled, .int .i64 U.columns] ++ E) (by simp [treeCells]) (by simp [hD])) Yba.underlying51 rfl (nm51 _)
    have q1 : ∀ n, (binOp .neq 51 (.agg (nm T.point).toArray) (.agg (nm U.point).toArray)).run Yba.prog (w7.drewN n) = .ok (.bool (decide (T.point ≠ U.point))) (w7.drewN n) := fun n => neq51 T.point U.point hT hU _
    have q2 := guard51n
    generalize hd : decide (T.point ≠ U.point) = dp at q1
    refine wp_region_quiet_lit (by kernel_rfl) (by kernel_rfl) ?_
    go_big_quiet_step (fail)
    go_big_quiet_step (fail)
    go_big_quiet_step (fail)
    go_big_quiet_want
    refine quiet_load_by 51 _ (by rfl) _ _ (by rfl) (by rintro _ ⟨n, rfl⟩; exact l1 n) ?_
    go_big_quiet_on
    simp only [Act.put, List.setIfInBounds_toArray, List.set_cons_succ, List.set_cons_zero]
    go_big_quiet_step (fail)
    go_big_quiet_step (fail)
    go_big_quiet_step (fail)
    go_big_quiet_want
    refine quiet_load_by 51 _ (by rfl) _ _ (by rfl) (by rintro _ ⟨n, rfl⟩; exact l2 n) ?_
    go_big_quiet_on
    simp only [Act.put, List.setIfInBounds_toArray, List.set_cons_succ, List.set_cons_zero]
    go_big_quiet_want
    refine quiet_bin_by .neq 51 _ _ 51 (by rfl) _ _ _ (by rfl) (by rfl) (by rintro _ ⟨n, rfl⟩; exact q2 _ _ _ _ _) (by rintro _ ⟨n, rfl⟩; exact q1 n) ?_
    go_big_quiet_on
    simp only [Act.put, List.setIfInBounds_toArray, List.set_cons_succ, List.set_cons_zero]
    refine wpQuiet_nil ?_
    intro _ hw'
    obtain ⟨nq, hw''⟩ := hw'
    subst hw''
    go_wp2_with fail
    go_meet
    exact ⟨by rw [hd], y _⟩
  case rest =>
  obtain ⟨rfl, z8⟩ := hcut
  clear z7
  revert z8
  generalize wc = w8
  intro z8
  go_upto_if 152 with (fail)
  go_cut [] from 152 to 159 (fun wx => TreeIn w g A B wx (j7 (j6 (j5 (j4 (j3 (j2 (j1 T U) U) U) U) U) U) U))
  case first =>
    have f := fun j => z8.1.frozen j
    have c0 : w8.cell? ⟨g, og + 20, none⟩ = some (.bool (j6 (j5 (j4 (j3 (j2 (j1 T U) U) U) U) U) U).lost) := range_cell (z8.range hA) 20 (tc _).2.2.1
    by_cases h1 : T.point = U.point
    · have e1 : decide (T.point ≠ U.point) = false := by simp [h1]
      rw [e1]
      have e7 : j7 (j6 (j5 (j4 (j3 (j2 (j1 T U) U) U) U) U) U) U = j6 (j5 (j4 (j3 (j2 (j1 T U) U) U) U) U) U := by
        unfold j7; exact if_pos h1
      have H7 : Hid (j7 (j6 (j5 (j4 (j3 (j2 (j1 T U) U) U) U) U) U) U = j6 (j5 (j4 (j3 (j2 (j1 T U) U) U) U) U) U) := e7
      clear h1 e1 e7
      go_wp2_with fail
      go_meet
      rw [H7.out]; exact z8
    · have e1 : decide (T.point ≠ U.point) = true := by simp [h1]
      rw [e1]
      have e7 : j7 (j6 (j5 (j4 (j3 (j2 (j1 T U) U) U) U) U) U) U = { ({ (j6 (j5 (j4 (j3 (j2 (j1 T U) U) U) U) U) U) with lost := true }) with point := 0 } := by
        conv => lhs; unfold j7
        exact if_neg h1
      have H7 : Hid (j7 (j6 (j5 (j4 (j3 (j2 (j1 T U) U) U) U) U) U) U = { ({ (j6 (j5 (j4 (j3 (j2 (j1 T U) U) U) U) U) U) with lost := true }) with point := 0 }) := e7
      clear h1 e1 e7
      have y1 := z8.put hA 20 (by omega) _ _ (put_lost (j6 (j5 (j4 (j3 (j2 (j1 T U) U) U) U) U) U) true)
      have hrs := reset_any g (og + 2) 60 _ _ y1.1 (by simp only [List.length_append, treeCells_length]; omega)
      go_wp2_with (first
        | (go_at_call 25; refine hrs.mono ?_; rintro e w9 ⟨rfl, b9, g9⟩))
      go_meet
      rw [H7.out]
      refine ⟨?_, grown_trans y1.2 g9⟩
      rw [put_point _ A B og 0 hA] at b9
      exact b9
  case rest =>
  have z9 : TreeIn w g A B wc (j7 (j6 (j5 (j4 (j3 (j2 (j1 T U) U) U) U) U) U) U) := hcut
  clear hcut z8
  revert z9
  generalize wc = w9
  intro z9
  have rg := z9.range hA
  have ru := (z9.there hb hne).range rfl hD
  have f := fun j => z9.1.frozen j
  have c0 : w9.cell? ⟨g, og + 20, none⟩ = some (.bool (j7 (j6 (j5 (j4 (j3 (j2 (j1 T U) U) U) U) U) U) U).lost) := range_cell rg 20 (tc _).2.2.1
  have d0 : w9.cell? ⟨b, ob + 20, none⟩ = some (.bool U.lost) := range_cell ru 20 (tc _).2.2.1
  rcases Bool.eq_false_or_eq_true (j7 (j6 (j5 (j4 (j3 (j2 (j1 T U) U) U) U) U) U) U).lost with hf | hf
  · rw [hf] at c0
    go_wp2_with fail
    go_end0
    have := z9.put hA 20 (by omega) _ (joinT T U) ((put_lost _ true).trans (by unfold joinT j8; rw [hf]; rfl))
    exact ⟨rfl, this⟩
  · rw [hf] at c0
    go_wp2_with fail
    go_end0
    have := z9.put hA 20 (by omega) _ (joinT T U) ((put_lost _ U.lost).trans (by unfold joinT j8; rw [hf]; rfl))
    exact ⟨rfl, this⟩
end Go.Proofs.Ybulkafpc
