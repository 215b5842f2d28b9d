/-
  THE WALK OF FUNCTION 5 (htmlstate.LawS1575CExact): 'law_none' (no path), 'law_long' (more than 256), 'law_main' (the rest): the law returns true and turns nothing old.
  Loop 1 goes over the paths, loop 2 looks whether the path's group was met before, loop 3 makes the group's tree anew ('lst', YbulkafpcExact); the answers of build and merge come by their contracts (YbulkafpcBuild, YbulkafpcMerge).
  The long case was written out by a small program of mine, field by field; nothing here runs a program.
-/
import Derived.Test.YbulkafpcExact
import Derived.Deep.LoopGhost
import Derived.Deep.RegionHeld3
namespace Go.Proofs.Ybulkafpc
open Go.RowKit
set_option maxHeartbeats 1000000 in
set_option maxRecDepth 10000 in
theorem law_none (s : Option Addr) (cap : Nat) (w : World) :
    Calls Yba.prog 5 #[.slice s 0 cap] w fun e w' => e = .returned (.bool true) ∧ Below w.heap.size w w' := by
  go_enter Yba.func5, Yba.ntmps5
  go_wp2
  go_ret
  exact ⟨rfl, Below.refl _ _⟩
set_option maxHeartbeats 1000000 in
set_option maxRecDepth 10000 in
theorem law_long (s : Option Addr) (n cap : Nat) (h : 256 < n) (w : World) :
    Calls Yba.prog 5 #[.slice s n cap] w fun e w' => e = .returned (.bool true) ∧ Below w.heap.size w w' := by
  have e0 : ((n : Int) == 0) = false := by simp; omega
  have e1 : decide ((256 : Int) < (n : Int)) = true := by simp; omega
  have h' : (256 : Int) < (n : Int) := by omega
  go_enter Yba.func5, Yba.ntmps5
  go_wp2
  go_ret
  exact ⟨rfl, Below.refl _ _⟩
/-- a load of a whole struct, kept whole: the walk's set folds it into this name before it would open it -/
def loadW (t : TypeId) (p : Value) : Sem Value := Instr.loadAt t p
theorem fold_load47 (p : Value) : Instr.loadAt 47 p = loadW 47 p := rfl
theorem fold_store47 (p v : Value) : Instr.storeAt 47 p v = storeW 47 p v := rfl
theorem fold_load51 (p : Value) : Instr.loadAt 51 p = loadW 51 p := rfl
theorem fold_store51 (p v : Value) : Instr.storeAt 51 p v = storeW 51 p v := rfl
theorem fold_load58 (p : Value) : Instr.loadAt 58 p = loadW 58 p := rfl
theorem fold_store58 (p v : Value) : Instr.storeAt 58 p v = storeW 58 p v := rfl
theorem fold_load60 (p : Value) : Instr.loadAt 60 p = loadW 60 p := rfl
theorem fold_store60 (p v : Value) : Instr.storeAt 60 p v = storeW 60 p v := rfl
attribute [local go_sem ↓] fold_build fold_load47 fold_store47 fold_load51 fold_store51 fold_load58 fold_store58 fold_load60 fold_store60

theorem load47 {W : World} {b o : Nat} {p : Path} (h : W.rangeAt b o (pcells p)) : (loadW 47 (.pointer (some ⟨b, o, none⟩))).run Yba.prog W = .ok (.agg (pcells p).toArray) W :=
  run_loadAt_mid _ b o 47 (pcells p) _ h Yba.underlying47 rfl (size47 p)

theorem wpList_max {P : Program} {ops : Array Oper} {rest : List Oper} {o : Oper} {a : Act} {w : World} {Q : Exit → Act → World → Prop} (hgd : o.guard = none) (x y : Operand)
    (ho : o.op = .call { callee := .builtin .max, args := #[x, y], argTypes := #[3, 3] }) (p q : Int) (hx : a.eval x = .int .i64 p) (hy : a.eval y = .int .i64 q)
    (hr : (Builtin.max_ #[3, 3] o.type #[.int .i64 p, .int .i64 q]).run P w = .ok (.int .i64 (imax p q)) w) (h : wpList P ops Q rest (a.put o.dst (.int .i64 (imax p q))) w) : wpList P ops Q (o :: rest) a w := by
  refine wpList_plain hgd fun K hK => ?_
  unfold Oper.wp
  simp [execOp, ho, resolve, invoke, builtin, hx, hy, hr, Result.andThen]
  exact hK _ _ h
theorem want_good {P : Nat → Path} (hok : ∀ i, (P i).ok) (n i : Nat) : (want P n i).tg < 3 ∧ (want P n i).tree.point < 3 := by
  obtain ⟨-, ⟨t0, -⟩, -, -, -, -, -, -, -, -, ⟨p0, -⟩⟩ := hok i
  refine ⟨show ((P i).tag % 3).toNat < 3 by omega, ?_⟩
  show (if (lst P i n).2.1 = true then (lst P i n).1.point else 0) < 3
  split
  · rw [lst_point]; show ((P i).point % 3).toNat < 3; omega
  · omega
theorem cell_grown {w W : World} {g b o : Nat} {v : Value} (h : w.grownBy W (some g)) (hc : w.cell? ⟨b, o, none⟩ = some v) (hne : b ≠ g) : W.cell? ⟨b, o, none⟩ = some v := by
  have hl : b < w.heap.size := World.block_lt_of_cell? w ⟨b, o, none⟩ hc
  rw [World.cell?_of_block (a := ⟨b, o, none⟩) (h.block b hl (by simpa using hne))]; exact hc
theorem max_run (p q : Int) (ty : TypeId) (W : World) : (Builtin.max_ #[3, 3] ty #[.int .i64 p, .int .i64 q]).run Yba.prog W = .ok (.int .i64 (imax p q)) W := by
  simp [Builtin.max_, Builtin.max2, go_sem, imax]
def z0p : Path := ⟨0, 0, 0, 0, 0, 0, 0, 0, 0, 0, 0, false, false, false⟩
theorem zv47 (W : World) : (zeroValue 47).run Yba.prog W = .ok (.agg (pcells z0p).toArray) W := by kernel_rfl
theorem p_one (p : Path) : ∀ v ∈ pcells p, v.oneCell' = true := by
  unfold pcells
  repeat (first | exact one_nil | refine one_cons rfl ?_)
theorem bd51 (W : World) : (buildW 51 #[]).run Yba.prog W = .ok (.agg (nm 0).toArray) W := by kernel_rfl
theorem lst_same {P : Nat → Path} {i j : Nat} {T : Tree} {aa : Bool} {cc : Int} (h : lst P i j = (T, aa, cc)) (hij : i ≤ j) (hp : psame (P j) (P i) = true) :
    lst P i (j + 1) = (upd T (P j), aa && decide ((P j).point % 3 = (P i).point % 3), lcols cc (P j).columns) := by
  conv => lhs; unfold lst
  rw [if_pos ⟨hij, hp⟩, h]
theorem lst_other {P : Nat → Path} {i j : Nat} {T : Tree} {aa : Bool} {cc : Int} (h : lst P i j = (T, aa, cc)) (hp : psame (P j) (P i) = false) : lst P i (j + 1) = (T, aa, cc) := by
  conv => lhs; unfold lst
  rw [if_neg (fun e => by rw [hp] at e; cases e.2), h]
def v1 (T : Tree) (q : Path) : Tree := { T with svg := imax T.svg q.svg }
def v2 (T : Tree) (q : Path) : Tree := { T with mth := imax T.mth q.mth }
def v3 (T : Tree) (q : Path) : Tree := { T with pre := imax T.pre q.pre }
def v4 (T : Tree) (q : Path) : Tree := { T with listing := imax T.listing q.listing }
def v5 (T : Tree) (q : Path) : Tree := { T with selects := imax T.selects q.selects }
def v6 (T : Tree) (q : Path) : Tree := { T with selTpl := imax T.selTpl q.selTpl }
def v7 (T : Tree) (q : Path) : Tree := { T with templates := imax T.templates q.templates }
def v8 (T : Tree) (q : Path) : Tree := { T with frameset := T.frameset || q.frameset }
def v9 (T : Tree) (q : Path) : Tree := { T with unsettled := T.unsettled || q.unsettled }
def v10 (T : Tree) (q : Path) : Tree := { T with lost := T.lost || q.lost }
theorem upd_eq (T : Tree) (q : Path) : v10 (v9 (v8 (v7 (v6 (v5 (v4 (v3 (v2 (v1 (T) q) q) q) q) q) q) q) q) q) q = upd T q := rfl
/-- the argument, held by a function -/
def Args (P : Nat → Path) (n : Nat) (w : World) (b o : Nat) : Prop := ∀ i, i < n → w.rangeAt b (o + i * 14) (pcells (P i))
theorem Args.old {P : Nat → Path} {n : Nat} {w w' : World} {b o : Nat} (h : Args P n w b o) (hb : Below w.heap.size w w') : Args P n w' b o := fun i hi => range_old (h i hi) hb
set_option maxHeartbeats 4000000 in
set_option maxRecDepth 10000 in
theorem law_main (b o n cap : Nat) (P : Nat → Path) (hok : ∀ i, (P i).ok) (h1 : 1 ≤ n) (h256 : n ≤ 256) (w : World) (hA : Args P n w b o) :
    Calls Yba.prog 5 #[.slice (some ⟨b, o, none⟩) n cap] w fun e w' => e = .returned (.bool true) ∧ Below w.heap.size w w' := by
  have hps : ((List.range n).map P).length = n := by simp
  have hbd := build_any b o n cap ((List.range n).map P) hps h256 (by
    intro p hp
    obtain ⟨i, _, rfl⟩ := List.mem_map.1 hp
    exact hok i) w (by
    intro i hi
    have : ((List.range n).map P)[i] = P i := by simp
    rw [this]
    exact hA i (by rw [hps] at hi; exact hi))
  rw [List.map_map] at hbd
  have hmg := fun (W1 : World) (hb : Blk W1 w.heap.size 60 (flat ((List.range n).map (mk ∘ P)))) => merge_any w.heap.size n ((List.range n).map (mk ∘ P)) (by simp) h1 h256 (by
    intro u hu
    obtain ⟨i, _, rfl⟩ := List.mem_map.1 hu
    obtain ⟨-, ⟨t0, -⟩, -, -, -, -, -, -, -, -, ⟨p0, -⟩⟩ := hok i
    exact ⟨show ((P i).tag % 3).toNat < 3 by omega, show ((P i).point % 3).toNat < 3 by omega⟩) W1 hb
  have e0 : ((n : Int) == 0) = false := by simp; omega
  have e1 : decide ((256 : Int) < (n : Int)) = false := by simp; omega
  have HA : Hid (Args P n w b o) := hA
  have Hok : Hid (∀ i, (P i).ok) := hok
  clear hA hok hps
  go_enter Yba.func5, Yba.ntmps5
  go_upto_region 4 with (first
    | (go_at_call 13; refine hbd.mono ?_; rintro e W1 ⟨rfl, k1, k2⟩)
    | (go_at_call 12; refine (hmg _ k1).mono ?_; rintro e W2 ⟨m, L, rfl, l1, l2, l3, l4, l5⟩))
  have B2 : Below w.heap.size w W2 := k2.grown l5 k2.size (fun k hk => by cases hk; exact Nat.le_refl _)
  have A2 : Hid (Args P n W2 b o) := HA.out.old B2
  have hgrp : L.take m = grp P n := l4.trans (mrg_grp Hok.out n h1)
  have hm : m = (firsts P n).length := by
    have := congrArg List.length hgrp
    rw [List.length_take, l2, Nat.min_eq_left l3] at this
    rw [this]; simp [grp]
  have hgot : ∀ i, i < n → seen P i = false → ∃ h : (firsts P i).length < L.length, L[(firsts P i).length] = want P n i ∧ (firsts P i).length < m := by
    intro i hi hs
    have h := grp_at Hok.out n i hi hs
    rw [← hgrp] at h
    obtain ⟨hx, hy⟩ := List.getElem?_eq_some_iff.1 h
    rw [List.length_take] at hx
    exact ⟨by omega, by simpa using hy, by omega⟩
  have Hgot : Hid (∀ i, i < n → seen P i = false → ∃ h : (firsts P i).length < L.length, L[(firsts P i).length] = want P n i ∧ (firsts P i).length < m) := hgot
  have Hm : Hid (m = (firsts P n).length) := hm
  clear hbd hmg k1 k2 l4 l5 hgrp hgot hm HA W1
  go_wp2_with fail
  go_loopg [4, 26] n (fun k s4 s26 wx => ∃ i : Nat, i ≤ n ∧ k = n - i ∧ s4 = .int .i64 ((firsts P i).length : Nat) ∧ s26 = .int .i64 i ∧ Below W2.heap.size W2 wx)
  case atStart => exact ⟨0, Nat.zero_le _, rfl, rfl, rfl, Below.refl _ _⟩
  case round =>
    obtain ⟨i, hi, rfl, rfl, rfl, bel⟩ := hrel
    by_cases hlt : i < n
    · have hfs := firsts_length_succ P i
      have hfl : (firsts P i).length ≤ n := by
        have : (firsts P i).length ≤ i := by
          have := List.length_filter_le (fun i => !seen P i) (List.range i)
          simpa [firsts] using this
        omega
      cases hs : seen P i
      · rw [hs] at hfs
        have Hfs : Hid ((firsts P (i + 1)).length = (firsts P i).length + (if false = true then 0 else 1)) := hfs
        have hgi := Hgot.out i hlt hs
        have hno : ∀ j, j < i → psame (P j) (P i) = false := by
          intro j hj
          cases hp : psame (P j) (P i) with
          | false => rfl
          | true => rw [seen_iff.2 ⟨j, hj, hp⟩] at hs; cases hs
        have Hno : Hid (∀ j, j < i → psame (P j) (P i) = false) := hno
        have Hgi : Hid (∃ h : (firsts P i).length < L.length, L[(firsts P i).length] = want P n i ∧ (firsts P i).length < m) := hgi
        clear hfs hs hno hgi
        generalize (firsts P i).length = c at *
        go_wp2_with fail
        go_loopg [6, 7] i (fun k s6 s7 wx => ∃ j : Nat, j ≤ i ∧ k = i - j ∧ s6 = .bool false ∧ s7 = .int .i64 j ∧ Below W2.heap.size W2 wx)
        case atStart => exact ⟨0, Nat.zero_le _, rfl, rfl, rfl, bel⟩
        case round =>
          obtain ⟨j, hj, rfl, rfl, rfl, bel2⟩ := hrel
          by_cases hji : j < i
          · have hjn : j < n := by omega
            have hcs := csame_any (P j) (P i) (Hok.out j) (Hok.out i)
            rw [Hno.out j hji] at hcs
            have KS : Hid (∀ W, Below W2.heap.size W2 W → (loadW 47 (.pointer (some ⟨b, o + j * 14, none⟩))).run Yba.prog W = .ok (.agg (pcells (P j)).toArray) W ∧ (loadW 47 (.pointer (some ⟨b, o + i * 14, none⟩))).run Yba.prog W = .ok (.agg (pcells (P i)).toArray) W ∧ Below W2.heap.size W2 W) :=
              fun W h => ⟨load47 (A2.out.old h j hjn), load47 (A2.out.old h i hlt), h⟩
            go_upto_region 12 with (fail)
            go_region_held3 (fun W => (loadW 47 (.pointer (some ⟨b, o + j * 14, none⟩))).run Yba.prog W = .ok (.agg (pcells (P j)).toArray) W ∧ (loadW 47 (.pointer (some ⟨b, o + i * 14, none⟩))).run Yba.prog W = .ok (.agg (pcells (P i)).toArray) W ∧ Below W2.heap.size W2 W)
              (first
                | (refine KS.out _ ?_; first
                    | (exact below_drewN bel2 1)
                    | (exact below_go b3 (below_drewN bel2 1))))
              (first
                | (go_at_call 14; refine (hcs _).mono ?_; rintro e w3 ⟨rfl, b3⟩))
            have b4 : Below W2.heap.size W2 w3 := below_go b3 (below_drewN bel2 1)
            go_wp2_with fail
            go_roundg (i - (j + 1))
            case measure => omega
            case rel => exact ⟨j + 1, by omega, rfl, rfl, by go_num, b4⟩
          · obtain rfl : j = i := by omega
            have hrgi : wr.rangeAt b (o + j * 14) (pcells (P j)) := A2.out.old bel2 j hlt
            have hmk := cmk_any (P j) (Hok.out j) wr
            have hz := zv60
            go_wp2_with (first
              | (refine wpList_load_blk (by rfl) 47 _ (by rfl) b (o + j * 14) (by rfl) (pcells (P j)) _ hrgi Yba.underlying47 rfl (size47 _) ?_)
              | (go_at_call 15; refine hmk.mono ?_; rintro e Wc ⟨rfl, bc⟩)
              | (refine wpList_store_blk (by rfl) 60 _ _ (by rfl) Wc.heap.size 0 (tokCells (mk (P j))) (by rfl) (by rfl) 60 (tokCells zt) (Blk.new Wc _ _) (fit60 _ _) (size60 _) (tok_one _) ?_; intro We hne hge hse; refine Stopped.out ?_))
            rw [splice_all _ _ (by rw [tokCells_length, tokCells_length])] at hne
            have bC : Below W2.heap.size W2 Wc := below_go bc bel2
            have bE : Below Wc.heap.size Wc We := ((Below.refl _ Wc).alloc (Nat.le_refl _) _).grown hge (by simp) (fun k hk => by cases hk; exact Nat.le_refl _)
            clear hmk bc hge hse hrgi bel bel2 hz
            unfold Stopped
            go_wp2_with fail
            go_loopg [9, 10, 11] (n - j) (fun k s9 s10 s11 wx => ∃ (t : Nat) (T : Tree) (aa : Bool) (cc : Int), j ≤ t ∧ t ≤ n ∧ k = n - t ∧ lst P j t = (T, aa, cc) ∧ s9 = .bool aa ∧ s10 = .int .i64 cc ∧ s11 = .int .i64 t ∧ Blk wx Wc.heap.size 60 (tokCells ⟨(mk (P j)).st, (mk (P j)).tg, T⟩) ∧ Below Wc.heap.size Wc wx)
            case atStart => exact ⟨j, treeOf (P j), true, 0, Nat.le_refl _, by omega, rfl, lst_start P j j (Nat.le_refl _), rfl, rfl, rfl, hne, bE⟩
            case round =>
              obtain ⟨t, T, aa, cc, hjt, htn, rfl, hlst, rfl, rfl, rfl, hbe, hbc⟩ := hrel
              have Hlst : Hid (lst P j t = (T, aa, cc)) := hlst
              clear hlst hne bE
              by_cases htl : t < n
              · skip
                have hrt : wr.rangeAt b (o + t * 14) (pcells (P t)) := A2.out.old (below_go hbc bC) t htl
                have hz := zv47
                go_upto_region 22 with (first
                  | (refine wpList_load_blk (by rfl) 47 _ (by rfl) b (o + t * 14) (by rfl) (pcells (P t)) _ hrt Yba.underlying47 rfl (size47 _) ?_)
                  | (refine wpList_store_blk (by rfl) 47 _ _ (by rfl) wr.heap.size 0 (pcells (P t)) (by rfl) (by rfl) 47 (pcells z0p) (Blk.new wr _ _) (Nat.le_refl _) (size47 _) (p_one _) ?_; intro Wq hnq hgq hsq))
                rw [splice_all (pcells z0p) (pcells (P t)) rfl] at hnq
                have bQ : Below wr.heap.size wr Wq := ((Below.refl _ wr).alloc (Nat.le_refl _) _).grown hgq (by simp) (fun k hk => by cases hk; exact Nat.le_refl _)
                have hEl := hbe.lt
                have hbe2 := hbe.old bQ
                have hbc2 : Below Wc.heap.size Wc Wq := below_go bQ hbc
                have hArq : Args P n Wq b o := A2.out.old (below_go hbc2 bC)
                generalize hQ : wr.heap.size = Qb at *
                have hQE : Qb ≠ Wc.heap.size := by omega
                clear hz hrt hgq hsq bQ hbe hbc hQ wr
                have hcs := csame_any (P t) (P j) (Hok.out t) (Hok.out j)
                have KS : Hid (∀ W, Below Wq.heap.size Wq W → (loadW 47 (.pointer (some ⟨Qb, 0, none⟩))).run Yba.prog W = .ok (.agg (pcells (P t)).toArray) W ∧ (loadW 47 (.pointer (some ⟨b, o + j * 14, none⟩))).run Yba.prog W = .ok (.agg (pcells (P j)).toArray) W ∧ Below Wq.heap.size Wq W) :=
                  fun W h => ⟨load47 ((hnq.old h).range (A := []) (B := []) (by simp) rfl), load47 (hArq.old h j hlt), h⟩
                have HAq : Hid (Args P n Wq b o) := hArq
                clear hArq
                go_region_held3 (fun W => (loadW 47 (.pointer (some ⟨Qb, 0, none⟩))).run Yba.prog W = .ok (.agg (pcells (P t)).toArray) W ∧ (loadW 47 (.pointer (some ⟨b, o + j * 14, none⟩))).run Yba.prog W = .ok (.agg (pcells (P j)).toArray) W ∧ Below Wq.heap.size Wq W)
                  (first
                    | (refine KS.out _ ?_; first
                        | (exact below_drewN (Below.refl _ Wq) 1)
                        | (exact below_go b5 (below_drewN (Below.refl _ Wq) 1))
                        | (go_split_ands; assumption)))
                  (first
                    | (go_at_call 14; refine (hcs _).mono ?_; rintro e w5 ⟨rfl, b5⟩))
                have b6 : Below Wq.heap.size Wq w5 := below_go b5 (below_drewN (Below.refl _ Wq) 1)
                have hbe3 := hbe2.old b6
                have hnq3 := hnq.old b6
                have hbc3 : Below Wc.heap.size Wc w5 := below_go b6 hbc2
                have hAr3 : Args P n w5 b o := HAq.out.old b6
                have Har : Hid (Args P n w5 b o) := hAr3
                clear hbe2 hnq hbc2 b5 b6 hcs KS hAr3 HAq
                cases hps : psame (P t) (P j)
                · have Hps : Hid (psame (P t) (P j) = false) := hps
                  clear hps
                  go_wp2_with fail
                  go_roundg (n - (t + 1))
                  case measure => omega
                  case rel => exact ⟨t + 1, T, aa, cc, by omega, by omega, rfl, lst_other Hlst.out Hps.out, rfl, rfl, by go_num, hbe3, hbc3⟩
                · have Hps : Hid (psame (P t) (P j) = true) := hps
                  clear hps
                  obtain ⟨-, -, ⟨x2, y2⟩, ⟨x3, y3⟩, ⟨x4, y4⟩, ⟨x5, y5⟩, ⟨x6, y6⟩, ⟨x7, y7⟩, ⟨x8, y8⟩, ⟨x9, y9⟩, ⟨x10, y10⟩⟩ := Hok.out t
                  have hpi : 0 ≤ (P j).point ∧ (P j).point < 256 := (Hok.out j).2.2.2.2.2.2.2.2.2.2
                  obtain ⟨x11, y11⟩ := hpi
                  have hbE : b ≠ Wc.heap.size := by
                    have hc0 : W2.cell? ⟨b, o + 0 * 14 + 0, none⟩ = some _ := A2.out 0 (by omega) 0 _ rfl
                    have := World.block_lt_of_cell? W2 _ hc0
                    have h2 := bC.size
                    simp only at this
                    omega
                  have Hpt : Hid (w5.rangeAt b (o + j * 14) (pcells (P j))) := Har.out j hlt
                  have z0 : TreeIn w5 Wc.heap.size (headCells (mk (P j)).st (mk (P j)).tg) [] w5 T := ⟨by simpa [tokCells] using hbe3, World.grownBy.refl _ _⟩
                  have hAl : (headCells (mk (P j)).st (mk (P j)).tg).length = 139 := headCells_length _ _
                  clear hbe3
                  have rg := z0.range hAl
                  have hQn := z0.there hnq3 hQE
                  have f0 := z0.1.frozen 139
                  have c0 : w5.cell? ⟨Wc.heap.size, 139, none⟩ = some (.int .i64 (T).svg) := range_cell rg 0 (tc _).1
                  have d0 : w5.cell? ⟨Qb, 2, none⟩ = some (.int .u8 (P t).svg) := hQn.cell 2
                  have wv : IntKind.i64.wrap (P t).svg = (P t).svg := by rw [IntKind.wrap_i64]; omega
                  go_upto_region 24 with (first
                    | (refine wpList_max (by rfl) _ _ (by rfl) (T).svg (P t).svg (by rfl) (by rfl) (max_run _ _ _ _) ?_))
                  have z1 : TreeIn w5 Wc.heap.size (headCells (mk (P j)).st (mk (P j)).tg) [] (w5.setCell ⟨Wc.heap.size, 139, none⟩ (.int .i64 (imax (T).svg (P t).svg))) (v1 (T) (P t)) := z0.put hAl 0 (by omega) _ _ (put_svg _ _)
                  generalize w5.setCell ⟨Wc.heap.size, 139, none⟩ (.int .i64 (imax (T).svg (P t).svg)) = y0W at z1 ⊢
                  clear rg hQn f0 c0 d0 wv z0
                  have rg := z1.range hAl
                  have hQn := z1.there hnq3 hQE
                  have f0 := z1.1.frozen 140
                  have c0 : y0W.cell? ⟨Wc.heap.size, 140, none⟩ = some (.int .i64 (v1 (T) (P t)).mth) := range_cell rg 1 (tc _).2.1
                  have d0 : y0W.cell? ⟨Qb, 3, none⟩ = some (.int .u8 (P t).mth) := hQn.cell 3
                  have wv : IntKind.i64.wrap (P t).mth = (P t).mth := by rw [IntKind.wrap_i64]; omega
                  go_upto_region 25 with (first
                    | (refine wpList_max (by rfl) _ _ (by rfl) (v1 (T) (P t)).mth (P t).mth (by rfl) (by rfl) (max_run _ _ _ _) ?_))
                  have z2 : TreeIn w5 Wc.heap.size (headCells (mk (P j)).st (mk (P j)).tg) [] (y0W.setCell ⟨Wc.heap.size, 140, none⟩ (.int .i64 (imax (v1 (T) (P t)).mth (P t).mth))) (v2 (v1 (T) (P t)) (P t)) := z1.put hAl 1 (by omega) _ _ (put_mth _ _)
                  generalize y0W.setCell ⟨Wc.heap.size, 140, none⟩ (.int .i64 (imax (v1 (T) (P t)).mth (P t).mth)) = y1W at z2 ⊢
                  clear rg hQn f0 c0 d0 wv z1
                  have rg := z2.range hAl
                  have hQn := z2.there hnq3 hQE
                  have f0 := z2.1.frozen 160
                  have c0 : y1W.cell? ⟨Wc.heap.size, 160, none⟩ = some (.int .i64 (v2 (v1 (T) (P t)) (P t)).pre) := range_cell rg 21 (tc _).2.2.2.1
                  have d0 : y1W.cell? ⟨Qb, 4, none⟩ = some (.int .u8 (P t).pre) := hQn.cell 4
                  have wv : IntKind.i64.wrap (P t).pre = (P t).pre := by rw [IntKind.wrap_i64]; omega
                  go_upto_region 26 with (first
                    | (refine wpList_max (by rfl) _ _ (by rfl) (v2 (v1 (T) (P t)) (P t)).pre (P t).pre (by rfl) (by rfl) (max_run _ _ _ _) ?_))
                  have z3 : TreeIn w5 Wc.heap.size (headCells (mk (P j)).st (mk (P j)).tg) [] (y1W.setCell ⟨Wc.heap.size, 160, none⟩ (.int .i64 (imax (v2 (v1 (T) (P t)) (P t)).pre (P t).pre))) (v3 (v2 (v1 (T) (P t)) (P t)) (P t)) := z2.put hAl 21 (by omega) _ _ (put_pre _ _)
                  generalize y1W.setCell ⟨Wc.heap.size, 160, none⟩ (.int .i64 (imax (v2 (v1 (T) (P t)) (P t)).pre (P t).pre)) = y2W at z3 ⊢
                  clear rg hQn f0 c0 d0 wv z2
                  have rg := z3.range hAl
                  have hQn := z3.there hnq3 hQE
                  have f0 := z3.1.frozen 161
                  have c0 : y2W.cell? ⟨Wc.heap.size, 161, none⟩ = some (.int .i64 (v3 (v2 (v1 (T) (P t)) (P t)) (P t)).listing) := range_cell rg 22 (tc _).2.2.2.2.1
                  have d0 : y2W.cell? ⟨Qb, 5, none⟩ = some (.int .u8 (P t).listing) := hQn.cell 5
                  have wv : IntKind.i64.wrap (P t).listing = (P t).listing := by rw [IntKind.wrap_i64]; omega
                  go_upto_region 27 with (first
                    | (refine wpList_max (by rfl) _ _ (by rfl) (v3 (v2 (v1 (T) (P t)) (P t)) (P t)).listing (P t).listing (by rfl) (by rfl) (max_run _ _ _ _) ?_))
                  have z4 : TreeIn w5 Wc.heap.size (headCells (mk (P j)).st (mk (P j)).tg) [] (y2W.setCell ⟨Wc.heap.size, 161, none⟩ (.int .i64 (imax (v3 (v2 (v1 (T) (P t)) (P t)) (P t)).listing (P t).listing))) (v4 (v3 (v2 (v1 (T) (P t)) (P t)) (P t)) (P t)) := z3.put hAl 22 (by omega) _ _ (put_listing _ _)
                  generalize y2W.setCell ⟨Wc.heap.size, 161, none⟩ (.int .i64 (imax (v3 (v2 (v1 (T) (P t)) (P t)) (P t)).listing (P t).listing)) = y3W at z4 ⊢
                  clear rg hQn f0 c0 d0 wv z3
                  have rg := z4.range hAl
                  have hQn := z4.there hnq3 hQE
                  have f0 := z4.1.frozen 163
                  have c0 : y3W.cell? ⟨Wc.heap.size, 163, none⟩ = some (.int .i64 (v4 (v3 (v2 (v1 (T) (P t)) (P t)) (P t)) (P t)).selects) := range_cell rg 24 (tc _).2.2.2.2.2.2.1
                  have d0 : y3W.cell? ⟨Qb, 6, none⟩ = some (.int .u8 (P t).selects) := hQn.cell 6
                  have wv : IntKind.i64.wrap (P t).selects = (P t).selects := by rw [IntKind.wrap_i64]; omega
                  go_upto_region 28 with (first
                    | (refine wpList_max (by rfl) _ _ (by rfl) (v4 (v3 (v2 (v1 (T) (P t)) (P t)) (P t)) (P t)).selects (P t).selects (by rfl) (by rfl) (max_run _ _ _ _) ?_))
                  have z5 : TreeIn w5 Wc.heap.size (headCells (mk (P j)).st (mk (P j)).tg) [] (y3W.setCell ⟨Wc.heap.size, 163, none⟩ (.int .i64 (imax (v4 (v3 (v2 (v1 (T) (P t)) (P t)) (P t)) (P t)).selects (P t).selects))) (v5 (v4 (v3 (v2 (v1 (T) (P t)) (P t)) (P t)) (P t)) (P t)) := z4.put hAl 24 (by omega) _ _ (put_selects _ _)
                  generalize y3W.setCell ⟨Wc.heap.size, 163, none⟩ (.int .i64 (imax (v4 (v3 (v2 (v1 (T) (P t)) (P t)) (P t)) (P t)).selects (P t).selects)) = y4W at z5 ⊢
                  clear rg hQn f0 c0 d0 wv z4
                  have rg := z5.range hAl
                  have hQn := z5.there hnq3 hQE
                  have f0 := z5.1.frozen 164
                  have c0 : y4W.cell? ⟨Wc.heap.size, 164, none⟩ = some (.int .i64 (v5 (v4 (v3 (v2 (v1 (T) (P t)) (P t)) (P t)) (P t)) (P t)).selTpl) := range_cell rg 25 (tc _).2.2.2.2.2.2.2.1
                  have d0 : y4W.cell? ⟨Qb, 7, none⟩ = some (.int .u8 (P t).selTpl) := hQn.cell 7
                  have wv : IntKind.i64.wrap (P t).selTpl = (P t).selTpl := by rw [IntKind.wrap_i64]; omega
                  go_upto_region 29 with (first
                    | (refine wpList_max (by rfl) _ _ (by rfl) (v5 (v4 (v3 (v2 (v1 (T) (P t)) (P t)) (P t)) (P t)) (P t)).selTpl (P t).selTpl (by rfl) (by rfl) (max_run _ _ _ _) ?_))
                  have z6 : TreeIn w5 Wc.heap.size (headCells (mk (P j)).st (mk (P j)).tg) [] (y4W.setCell ⟨Wc.heap.size, 164, none⟩ (.int .i64 (imax (v5 (v4 (v3 (v2 (v1 (T) (P t)) (P t)) (P t)) (P t)) (P t)).selTpl (P t).selTpl))) (v6 (v5 (v4 (v3 (v2 (v1 (T) (P t)) (P t)) (P t)) (P t)) (P t)) (P t)) := z5.put hAl 25 (by omega) _ _ (put_selTpl _ _)
                  generalize y4W.setCell ⟨Wc.heap.size, 164, none⟩ (.int .i64 (imax (v5 (v4 (v3 (v2 (v1 (T) (P t)) (P t)) (P t)) (P t)) (P t)).selTpl (P t).selTpl)) = y5W at z6 ⊢
                  clear rg hQn f0 c0 d0 wv z5
                  have rg := z6.range hAl
                  have hQn := z6.there hnq3 hQE
                  have f0 := z6.1.frozen 165
                  have c0 : y5W.cell? ⟨Wc.heap.size, 165, none⟩ = some (.int .i64 (v6 (v5 (v4 (v3 (v2 (v1 (T) (P t)) (P t)) (P t)) (P t)) (P t)) (P t)).templates) := range_cell rg 26 (tc _).2.2.2.2.2.2.2.2.1
                  have d0 : y5W.cell? ⟨Qb, 8, none⟩ = some (.int .u8 (P t).templates) := hQn.cell 8
                  have wv : IntKind.i64.wrap (P t).templates = (P t).templates := by rw [IntKind.wrap_i64]; omega
                  go_upto_region 30 with (first
                    | (refine wpList_max (by rfl) _ _ (by rfl) (v6 (v5 (v4 (v3 (v2 (v1 (T) (P t)) (P t)) (P t)) (P t)) (P t)) (P t)).templates (P t).templates (by rfl) (by rfl) (max_run _ _ _ _) ?_))
                  have z7 : TreeIn w5 Wc.heap.size (headCells (mk (P j)).st (mk (P j)).tg) [] (y5W.setCell ⟨Wc.heap.size, 165, none⟩ (.int .i64 (imax (v6 (v5 (v4 (v3 (v2 (v1 (T) (P t)) (P t)) (P t)) (P t)) (P t)) (P t)).templates (P t).templates))) (v7 (v6 (v5 (v4 (v3 (v2 (v1 (T) (P t)) (P t)) (P t)) (P t)) (P t)) (P t)) (P t)) := z6.put hAl 26 (by omega) _ _ (put_templates _ _)
                  generalize y5W.setCell ⟨Wc.heap.size, 165, none⟩ (.int .i64 (imax (v6 (v5 (v4 (v3 (v2 (v1 (T) (P t)) (P t)) (P t)) (P t)) (P t)) (P t)).templates (P t).templates)) = y6W at z7 ⊢
                  clear rg hQn f0 c0 d0 wv z6
                  go_upto_region 30 with (fail)
                  go_cut [] from 130 to 138 (fun wx => TreeIn w5 Wc.heap.size (headCells (mk (P j)).st (mk (P j)).tg) [] wx (v8 (v7 (v6 (v5 (v4 (v3 (v2 (v1 (T) (P t)) (P t)) (P t)) (P t)) (P t)) (P t)) (P t)) (P t)))
                  case first =>
                    have rg := z7.range hAl
                    have hQn := z7.there hnq3 hQE
                    have f0 := z7.1.frozen 162
                    have c0 : y6W.cell? ⟨Wc.heap.size, 162, none⟩ = some (.bool (v7 (v6 (v5 (v4 (v3 (v2 (v1 (T) (P t)) (P t)) (P t)) (P t)) (P t)) (P t)) (P t)).frameset) := range_cell rg 23 (tc _).2.2.2.2.2.1
                    have d0 : y6W.cell? ⟨Qb, 11, none⟩ = some (.bool (P t).frameset) := hQn.cell 11
                    rcases Bool.eq_false_or_eq_true (v7 (v6 (v5 (v4 (v3 (v2 (v1 (T) (P t)) (P t)) (P t)) (P t)) (P t)) (P t)) (P t)).frameset with hf | hf
                    · rw [hf] at c0
                      go_wp2_with fail
                      go_meet
                      exact z7.put hAl 23 (by omega) _ _ ((put_frameset _ true).trans (by simp [v8, hf]))
                    · rw [hf] at c0
                      go_wp2_with fail
                      go_meet
                      exact z7.put hAl 23 (by omega) _ _ ((put_frameset _ (P t).frameset).trans (by simp [v8, hf]))
                  case rest =>
                  have z8 : TreeIn w5 Wc.heap.size (headCells (mk (P j)).st (mk (P j)).tg) [] wc (v8 (v7 (v6 (v5 (v4 (v3 (v2 (v1 (T) (P t)) (P t)) (P t)) (P t)) (P t)) (P t)) (P t)) (P t)) := hcut
                  clear hcut z7
                  revert z8
                  generalize wc = y7W
                  intro z8
                  go_upto_region 31 with (fail)
                  go_cut [] from 139 to 147 (fun wx => TreeIn w5 Wc.heap.size (headCells (mk (P j)).st (mk (P j)).tg) [] wx (v9 (v8 (v7 (v6 (v5 (v4 (v3 (v2 (v1 (T) (P t)) (P t)) (P t)) (P t)) (P t)) (P t)) (P t)) (P t)) (P t)))
                  case first =>
                    have rg := z8.range hAl
                    have hQn := z8.there hnq3 hQE
                    have f0 := z8.1.frozen 166
                    have c0 : y7W.cell? ⟨Wc.heap.size, 166, none⟩ = some (.bool (v8 (v7 (v6 (v5 (v4 (v3 (v2 (v1 (T) (P t)) (P t)) (P t)) (P t)) (P t)) (P t)) (P t)) (P t)).unsettled) := range_cell rg 27 (tc _).2.2.2.2.2.2.2.2.2.1
                    have d0 : y7W.cell? ⟨Qb, 12, none⟩ = some (.bool (P t).unsettled) := hQn.cell 12
                    rcases Bool.eq_false_or_eq_true (v8 (v7 (v6 (v5 (v4 (v3 (v2 (v1 (T) (P t)) (P t)) (P t)) (P t)) (P t)) (P t)) (P t)) (P t)).unsettled with hf | hf
                    · rw [hf] at c0
                      go_wp2_with fail
                      go_meet
                      exact z8.put hAl 27 (by omega) _ _ ((put_unsettled _ true).trans (by simp [v9, hf]))
                    · rw [hf] at c0
                      go_wp2_with fail
                      go_meet
                      exact z8.put hAl 27 (by omega) _ _ ((put_unsettled _ (P t).unsettled).trans (by simp [v9, hf]))
                  case rest =>
                  have z9 : TreeIn w5 Wc.heap.size (headCells (mk (P j)).st (mk (P j)).tg) [] wc (v9 (v8 (v7 (v6 (v5 (v4 (v3 (v2 (v1 (T) (P t)) (P t)) (P t)) (P t)) (P t)) (P t)) (P t)) (P t)) (P t)) := hcut
                  clear hcut z8
                  revert z9
                  generalize wc = y8W
                  intro z9
                  go_upto_region 32 with (fail)
                  go_cut [] from 148 to 156 (fun wx => TreeIn w5 Wc.heap.size (headCells (mk (P j)).st (mk (P j)).tg) [] wx (v10 (v9 (v8 (v7 (v6 (v5 (v4 (v3 (v2 (v1 (T) (P t)) (P t)) (P t)) (P t)) (P t)) (P t)) (P t)) (P t)) (P t)) (P t)))
                  case first =>
                    have rg := z9.range hAl
                    have hQn := z9.there hnq3 hQE
                    have f0 := z9.1.frozen 159
                    have c0 : y8W.cell? ⟨Wc.heap.size, 159, none⟩ = some (.bool (v9 (v8 (v7 (v6 (v5 (v4 (v3 (v2 (v1 (T) (P t)) (P t)) (P t)) (P t)) (P t)) (P t)) (P t)) (P t)) (P t)).lost) := range_cell rg 20 (tc _).2.2.1
                    have d0 : y8W.cell? ⟨Qb, 13, none⟩ = some (.bool (P t).lost) := hQn.cell 13
                    rcases Bool.eq_false_or_eq_true (v9 (v8 (v7 (v6 (v5 (v4 (v3 (v2 (v1 (T) (P t)) (P t)) (P t)) (P t)) (P t)) (P t)) (P t)) (P t)) (P t)).lost with hf | hf
                    · rw [hf] at c0
                      go_wp2_with fail
                      go_meet
                      exact z9.put hAl 20 (by omega) _ _ ((put_lost _ true).trans (by simp [v10, hf]))
                    · rw [hf] at c0
                      go_wp2_with fail
                      go_meet
                      exact z9.put hAl 20 (by omega) _ _ ((put_lost _ (P t).lost).trans (by simp [v10, hf]))
                  case rest =>
                  have z10 : TreeIn w5 Wc.heap.size (headCells (mk (P j)).st (mk (P j)).tg) [] wc (v10 (v9 (v8 (v7 (v6 (v5 (v4 (v3 (v2 (v1 (T) (P t)) (P t)) (P t)) (P t)) (P t)) (P t)) (P t)) (P t)) (P t)) (P t)) := hcut
                  clear hcut z9
                  revert z10
                  generalize wc = y9W
                  intro z10
                  have y0 : TreeIn w5 Wc.heap.size (headCells (mk (P j)).st (mk (P j)).tg) [] y9W (upd T (P t)) := z10
                  clear z10
                  revert y0
                  generalize y9W = w6
                  intro y0
                  go_upto_region 33 with (fail)
                  go_cut [170] from 157 to 169 (fun s wx => s = .bool (decide (0 < (P t).columns ∧ (cc = 0 ∨ (P t).columns < cc))) ∧ TreeIn w5 Wc.heap.size (headCells (mk (P j)).st (mk (P j)).tg) [] wx (upd T (P t)))
                  case first =>
                    have d0 : w6.cell? ⟨Qb, 9, none⟩ = some (.int .u8 (P t).columns) := (y0.there hnq3 hQE).cell 9
                    have wv : IntKind.i64.wrap (P t).columns = (P t).columns := by rw [IntKind.wrap_i64]; omega
                    generalize hoo : (P t).columns = oo at d0 x9 y9 wv
                    have Hoo : Hid ((P t).columns = oo) := hoo
                    clear hoo
                    by_cases g1 : 0 < oo
                    · have e2 : decide (0 < oo) = true := by simp [g1]
                      by_cases g2 : cc = 0
                      · have e3 : (cc == 0) = true := by simp [g2]
                        have ed : decide (0 < oo ∧ (cc = 0 ∨ oo < cc)) = true := by simp [g1, g2]
                        go_wp2_with fail
                        go_meet
                        exact ⟨by rw [Hoo.out, ed], y0⟩
                      · have e3 : (cc == 0) = false := by simp [g2]
                        by_cases g3 : oo < cc
                        · have e4 : decide (oo < cc) = true := by simp [g3]
                          have ed : decide (0 < oo ∧ (cc = 0 ∨ oo < cc)) = true := by simp [g1, g3]
                          go_wp2_with fail
                          go_meet
                          exact ⟨by rw [Hoo.out, ed], y0⟩
                        · have e4 : decide (oo < cc) = false := by simp [g3]
                          have ed : decide (0 < oo ∧ (cc = 0 ∨ oo < cc)) = false := by simp [g2, g3]
                          go_wp2_with fail
                          go_meet
                          exact ⟨by rw [Hoo.out, ed], y0⟩
                    · have e2 : decide (0 < oo) = false := by simp [g1]
                      have ed : decide (0 < oo ∧ (cc = 0 ∨ oo < cc)) = false := by simp [g1]
                      go_wp2_with fail
                      go_meet
                      exact ⟨by rw [Hoo.out, ed], y0⟩
                  case rest =>
                  obtain ⟨rfl, y1⟩ := hcut
                  clear y0
                  revert y1
                  generalize wc = w7
                  intro y1
                  go_upto_if 170 with (fail)
                  go_cut [10] from 170 to 173 (fun s wx => s = .int .i64 (lcols cc (P t).columns) ∧ TreeIn w5 Wc.heap.size (headCells (mk (P j)).st (mk (P j)).tg) [] wx (upd T (P t)))
                  case first =>
                    have d0 : w7.cell? ⟨Qb, 9, none⟩ = some (.int .u8 (P t).columns) := (y1.there hnq3 hQE).cell 9
                    have wv : IntKind.i64.wrap (P t).columns = (P t).columns := by rw [IntKind.wrap_i64]; omega
                    by_cases g1 : 0 < (P t).columns ∧ (cc = 0 ∨ (P t).columns < cc)
                    · rw [decide_eq_true g1]
                      have H2 : Hid (lcols cc (P t).columns = (P t).columns) := if_pos g1
                      clear g1
                      go_wp2_with fail
                      go_meet
                      exact ⟨by rw [H2.out], y1⟩
                    · rw [decide_eq_false g1]
                      have H2 : Hid (lcols cc (P t).columns = cc) := if_neg g1
                      clear g1
                      go_wp2_with fail
                      go_meet
                      exact ⟨by rw [H2.out], y1⟩
                  case rest =>
                  obtain ⟨rfl, y2⟩ := hcut
                  clear y1
                  revert y2
                  generalize wc = w8
                  intro y2
                  have d0 : w8.cell? ⟨Qb, 10, none⟩ = some (.int .u8 (P t).point) := (y2.there hnq3 hQE).cell 10
                  have c0 : w8.cell? ⟨b, o + j * 14 + 10, none⟩ = some (.int .u8 (P j).point) := cell_grown y2.2 (Hpt.out 10 _ rfl) hbE
                  have hblk : Blk w8 Wc.heap.size 60 (tokCells ⟨(mk (P j)).st, (mk (P j)).tg, upd T (P t)⟩) := by simpa [tokCells] using y2.1
                  have hbl8 : Below Wc.heap.size Wc w8 := hbc3.grown y2.2 hbc3.size (fun k hk => by cases hk; exact Nat.le_refl _)
                  have Hbk : Hid (Blk w8 Wc.heap.size 60 (tokCells ⟨(mk (P j)).st, (mk (P j)).tg, upd T (P t)⟩)) := hblk
                  clear hblk y2
                  go_upto_region 35 with (fail)
                  by_cases g2 : (P t).point % 3 = (P j).point % 3
                  · have e5 : ((P t).point % 3 != (P j).point % 3) = false := by simp [g2]
                    have H5 : Hid ((aa && decide ((P t).point % 3 = (P j).point % 3)) = aa) := by show _ = _; simp [g2]
                    clear g2
                    go_quiet (fail)
                    go_wp2_with fail
                    go_roundg (n - (t + 1))
                    case measure => omega
                    case rel => exact ⟨t + 1, _, _, _, by omega, by omega, rfl, lst_same Hlst.out hjt Hps.out, by rw [H5.out], rfl, by go_num, Hbk.out, below_drewN hbl8 _⟩
                  · have e5 : ((P t).point % 3 != (P j).point % 3) = true := by simp [g2]
                    have H5 : Hid ((aa && decide ((P t).point % 3 = (P j).point % 3)) = false) := by show _ = _; simp [g2]
                    clear g2
                    go_quiet (fail)
                    go_wp2_with fail
                    go_roundg (n - (t + 1))
                    case measure => omega
                    case rel => exact ⟨t + 1, _, _, _, by omega, by omega, rfl, lst_same Hlst.out hjt Hps.out, by rw [H5.out], rfl, by go_num, Hbk.out, below_drewN hbl8 _⟩
              · skip
                obtain rfl : t = n := by omega
                have hAl : (headCells (mk (P j)).st (mk (P j)).tg).length = 139 := headCells_length _ _
                have z0 : TreeIn wr Wc.heap.size (headCells (mk (P j)).st (mk (P j)).tg) [] wr T := ⟨by simpa [tokCells] using hbe, World.grownBy.refl _ _⟩
                have f0 := fun k => z0.1.frozen k
                have c0 : wr.cell? ⟨Wc.heap.size, 167, none⟩ = some (.int .i64 T.columns) := range_cell (z0.range hAl) 28 (tc _).2.2.2.2.2.2.2.2.2.2
                clear hbe
                go_upto_if 188 with (fail)
                have z1 : TreeIn wr Wc.heap.size (headCells (mk (P j)).st (mk (P j)).tg) [] (wr.setCell ⟨Wc.heap.size, 167, none⟩ (.int .i64 cc)) { T with columns := cc } := z0.put hAl 28 (by omega) _ _ (put_columns _ _)
                generalize wr.setCell ⟨Wc.heap.size, 167, none⟩ (.int .i64 cc) = x1 at z1 ⊢
                clear f0 c0 z0
                go_cut [] from 188 to 193 (fun wx => Blk wx Wc.heap.size 60 (tokCells (want P t j)) ∧ Below Wc.heap.size Wc wx)
                case first =>
                  have hb1 : ∀ W, wr.grownBy W (some Wc.heap.size) → Below Wc.heap.size Wc W := fun W h => hbc.grown h hbc.size (fun k hk => by cases hk; exact Nat.le_refl _)
                  have Hb1 : Hid (∀ W, wr.grownBy W (some Wc.heap.size) → Below Wc.heap.size Wc W) := hb1
                  clear hb1
                  cases aa
                  · have f0 := fun k => z1.1.frozen k
                    have c0 : x1.cell? ⟨Wc.heap.size, 159, none⟩ = some (.bool T.lost) := range_cell (z1.range hAl) 20 (tc { T with columns := cc }).2.2.1
                    have z2 := z1.put hAl 20 (by omega) _ _ (put_lost _ true)
                    have hbd := bd51
                    go_wp2_with (first
                      | (refine wpList_store_blk (by rfl) 51 _ _ (by rfl) Wc.heap.size 141 (nm 0) (by rfl) (by rfl) 60 _ z2.1 (by simp only [List.length_append, treeCells_length, nm_length, hAl, List.length_nil]; omega) (nm51 0) (nm_one 0) ?_; intro W9 h9 g9 s9))
                    go_meet
                    rw [put_point _ _ _ 139 0 hAl] at h9
                    refine ⟨?_, Hb1.out _ (grown_trans z2.2 g9)⟩
                    have e9 : fin (lst P j t) = { ({ ({ T with columns := cc }) with lost := true }) with point := 0 } := by
                      rw [Hlst.out]; simp [fin]
                    unfold want tokCells
                    rw [e9]
                    simpa using h9
                  · go_wp2_with fail
                    go_meet
                    refine ⟨?_, Hb1.out _ z1.2⟩
                    have e9 : fin (lst P j t) = { T with columns := cc } := by
                      rw [Hlst.out]; simp [fin]
                    unfold want tokCells
                    rw [e9]
                    simpa using z1.1
                case rest =>
                obtain ⟨hk2, hbx⟩ := hcut
                clear z1 hbc
                revert hk2 hbx
                generalize wc = x2
                intro hk2 hbx
                obtain ⟨hcL, hLc, hcm⟩ := Hgi.out
                have e6 : decide ((m : Int) ≤ (c : Int)) = false := by simp; omega
                have hcm' : (c : Int) < (m : Int) := by omega
                have hT3 : (want P t j).tg < 3 ∧ (want P t j).tree.point < 3 := want_good Hok.out t j
                have y0 : Below w.heap.size w x2 := B2.trans ((below_go hbx bC).mono B2.size)
                have r1 : x2.rangeAt w.heap.size (c * 168) (tokCells (want P t j)) := by
                  rw [← hLc]
                  exact flat_range (l1.old (below_go hbx bC)) c hcL _ rfl
                have r2 : x2.rangeAt Wc.heap.size 0 (tokCells (want P t j)) := hk2.range (A := []) (B := []) (by simp) rfl
                have q1 : Hid (∀ n, (Instr.loadAt 60 (.pointer (some ⟨w.heap.size, c * 168, none⟩))).run Yba.prog (x2.drewN n) = .ok (.agg (tokCells (want P t j)).toArray) (x2.drewN n)) := fun n => run_loadAt_mid _ _ _ 60 _ _ (show (x2.drewN n).rangeAt w.heap.size (c * 168) (tokCells (want P t j)) from r1) Yba.underlying60 rfl (size60 _)
                have q2 : Hid (∀ n, (Instr.loadAt 60 (.pointer (some ⟨Wc.heap.size, 0, none⟩))).run Yba.prog (x2.drewN n) = .ok (.agg (tokCells (want P t j)).toArray) (x2.drewN n)) := fun n => run_loadAt_mid _ _ _ 60 _ _ (show (x2.drewN n).rangeAt Wc.heap.size 0 (tokCells (want P t j)) from r2) Yba.underlying60 rfl (size60 _)
                clear r1 r2 hk2 hLc
                go_upto_region 43 with (fail)
                refine wp_region_quiet_lit (by kernel_rfl) (by kernel_rfl) ?_
                go_big_quiet_step (fail)
                go_big_quiet_step (fail)
                go_big_quiet_step (fail)
                go_big_quiet_want
                refine quiet_load_by 60 _ (by rfl) _ _ (by rfl) (by rintro _ ⟨n, rfl⟩; exact q1.out n) ?_
                go_big_quiet_on
                simp only [Act.put, List.setIfInBounds_toArray, List.set_cons_succ, List.set_cons_zero]
                go_big_quiet_want
                refine quiet_load_by 60 _ (by rfl) _ _ (by rfl) (by rintro _ ⟨n, rfl⟩; exact q2.out n) ?_
                go_big_quiet_on
                simp only [Act.put, List.setIfInBounds_toArray, List.set_cons_succ, List.set_cons_zero]
                go_big_quiet_want
                refine quiet_bin_by .neq 60 _ _ 60 (by rfl) _ _ _ (by rfl) (by rfl) (by rintro _ ⟨n, rfl⟩; exact guard60n _ _ _ _ _) (by rintro _ ⟨n, rfl⟩; exact neq60 _ hT3.1 hT3.2 _) ?_
                go_big_quiet_on
                simp only [Act.put, List.setIfInBounds_toArray, List.set_cons_succ, List.set_cons_zero]
                refine wpQuiet_nil ?_
                intro _ hw'
                obtain ⟨nq, hw''⟩ := hw'
                subst hw''
                go_wp2_with fail
                go_roundg (t - (j + 1))
                case measure => omega
                case rel => exact ⟨j + 1, by omega, rfl, by rw [Hfs.out]; simp, by go_num, below_drewN (below_go hbx bC) nq⟩
      · rw [hs] at hfs
        obtain ⟨j0, hj0, hp0⟩ := seen_iff.1 hs
        have Hfs : Hid ((firsts P (i + 1)).length = (firsts P i).length + (if true = true then 0 else 1)) := hfs
        have Hp0 : Hid (psame (P j0) (P i) = true) := hp0
        clear hfs hs hp0
        generalize (firsts P i).length = c at *
        go_wp2_with fail
        go_loopg [6, 7] i (fun k s6 s7 wx => ∃ j : Nat, j ≤ j0 ∧ k = i - j ∧ s6 = .bool false ∧ s7 = .int .i64 j ∧ Below W2.heap.size W2 wx)
        case atStart => exact ⟨0, Nat.zero_le _, rfl, rfl, rfl, bel⟩
        case round =>
          obtain ⟨j, hj, rfl, rfl, rfl, bel2⟩ := hrel
          have hji : j < i := by omega
          have hjn : j < n := by omega
          have hcs := csame_any (P j) (P i) (Hok.out j) (Hok.out i)
          have KS : Hid (∀ W, Below W2.heap.size W2 W → (loadW 47 (.pointer (some ⟨b, o + j * 14, none⟩))).run Yba.prog W = .ok (.agg (pcells (P j)).toArray) W ∧ (loadW 47 (.pointer (some ⟨b, o + i * 14, none⟩))).run Yba.prog W = .ok (.agg (pcells (P i)).toArray) W ∧ Below W2.heap.size W2 W) :=
            fun W h => ⟨load47 (A2.out.old h j hjn), load47 (A2.out.old h i hlt), h⟩
          go_upto_region 12 with (fail)
          go_region_held3 (fun W => (loadW 47 (.pointer (some ⟨b, o + j * 14, none⟩))).run Yba.prog W = .ok (.agg (pcells (P j)).toArray) W ∧ (loadW 47 (.pointer (some ⟨b, o + i * 14, none⟩))).run Yba.prog W = .ok (.agg (pcells (P i)).toArray) W ∧ Below W2.heap.size W2 W)
            (first
              | (refine KS.out _ ?_; first
                  | (exact below_drewN bel2 1)
                  | (exact below_go b3 (below_drewN bel2 1))))
            (first
              | (go_at_call 14; refine (hcs _).mono ?_; rintro e w3 ⟨rfl, b3⟩))
          have b4 : Below W2.heap.size W2 w3 := below_go b3 (below_drewN bel2 1)
          cases hps : psame (P j) (P i)
          · have Hps : Hid (psame (P j) (P i) = false) := hps
            clear hps
            go_wp2_with fail
            go_roundg (i - (j + 1))
            case measure => omega
            case rel =>
              refine ⟨j + 1, ?_, rfl, rfl, by go_num, b4⟩
              rcases Nat.lt_or_ge j j0 with h | h
              · omega
              · obtain rfl : j = j0 := by omega
                have := Hp0.out
                rw [Hps.out] at this
                cases this
          · clear hps
            go_wp2_with fail
            go_roundg (n - (i + 1))
            case measure => omega
            case rel => exact ⟨i + 1, by omega, rfl, by rw [Hfs.out]; rfl, by go_num, b4⟩
    · obtain rfl : i = n := by omega
      have e2 : (((firsts P i).length : Int) == (m : Int)) = true := by rw [Hm.out]; simp
      go_wp2_with fail
      go_ret
      exact ⟨rfl, B2.trans (bel.mono B2.size)⟩
end Go.Proofs.Ybulkafpc
