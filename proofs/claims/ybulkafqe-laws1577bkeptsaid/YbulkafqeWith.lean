/-
  CONTRACT of (Reference).withTagAndDigest (12): four ways (a tag or none, a digest or none).
-/
import Derived.Test.YbulkafqeBuilder
import Derived.Deep.RegionWith
import Derived.Deep.DrawnRows
namespace Go.Proofs.Ybulkafqe
open Go.RowKit
attribute [local go_sem ↓] Go.wp_at_zero Go.wp_at_succ

/-- the receiver's box, as the call finds it -/
def refBox (t : ByteArray) (n p : Int) : Array Value := #[.string t, .int .i64 n, .int .u8 p, .int .u8 0]
def zeroBox : Array Value := #[.string ⟨#[]⟩, .int .i64 0, .int .u8 0, .int .u8 0]

/-- what stands between two calls of withTagAndDigest: the receiver's box and the result's lie in blocks N, N + 1; the builder, of bytes bs, in block N + 2 -/
structure St (w : World) (N : Nat) (t : ByteArray) (n p : Int) (bs : List Value) (wk : World) : Prop where
  box : wk.heap[N]? = some (.cells (refBox t n p) 23 (0, 0))
  res : wk.heap[N + 1]? = some (.cells zeroBox 23 (0, 0))
  bld : Lib.BuilderAt 40 5 (N + 1 + 1) (N + 1 + 1) (.pointer (some ⟨N + 1 + 1, 0, none⟩)) bs wk
  bel : Below N w wk
  siz : N + 1 + 1 ≤ wk.heap.size

theorem St.next {w : World} {N : Nat} {t : ByteArray} {n p : Int} {bs bs' : List Value} {wk w' : World} (h : St w N t n p bs wk) (b : Below (N + 1 + 1) wk w')
    (hb : Lib.BuilderAt 40 5 (N + 1 + 1) (N + 1 + 1) (.pointer (some ⟨N + 1 + 1, 0, none⟩)) bs' w') : St w N t n p bs' w' :=
  ⟨by rw [b.block N (by omega)]; exact h.box, by rw [b.block (N + 1) (by omega)]; exact h.res, hb, h.bel.trans (b.mono (by omega)), Nat.le_trans h.siz b.size⟩

theorem grow_st (w : World) (t : ByteArray) (n p m : Int) (hm0 : 0 < m) (hm : m ≤ 281474976710656) (wk : World)
    (box : wk.heap[w.heap.size]? = some (.cells (refBox t n p) 23 (0, 0))) (res : wk.heap[w.heap.size + 1]? = some (.cells zeroBox 23 (0, 0)))
    (bld : wk.heap[w.heap.size + 1 + 1]? = some (.cells #[.pointer none, .slice none 0 0] 40 (0, 0))) (bel : Below w.heap.size w wk) (siz : w.heap.size + 1 + 1 ≤ wk.heap.size) :
    Calls Yba.prog 17 #[.pointer (some ⟨w.heap.size + 1 + 1, 0, none⟩), .int .i64 m] wk fun e w' => e = .returned (.tuple #[]) ∧ St w w.heap.size t n p [] w' := by
  obtain ⟨k, rfl⟩ := Int.eq_ofNat_of_zero_le (show 0 ≤ m by omega)
  refine (Grow_fresh (w.heap.size + 1 + 1) (w.heap.size + 1 + 1) k wk (Nat.le_refl _) bld siz (by omega) (by omega)).mono ?_
  rintro e w' ⟨rfl, hb, b⟩
  exact ⟨rfl, by rw [b.block _ (by omega)]; exact box, by rw [b.block _ (by omega)]; exact res, hb, bel.trans (b.mono (by omega)), Nat.le_trans siz b.size⟩
theorem writeString_st (w : World) (N : Nat) (t : ByteArray) (n p : Int) (bs : List Value) (s : ByteArray) (wk : World) (h : St w N t n p bs wk) (hlen : bs.length + s.size ≤ 140737488355328) :
    Calls Yba.prog 18 #[.pointer (some ⟨N + 1 + 1, 0, none⟩), .string s] wk fun e w' => e = .returned (.tuple #[.int .i64 s.size, .nilIface]) ∧ St w N t n p (bs ++ Lib.strCells s) w' := by
  refine (WriteString_any _ _ bs s wk h.bld hlen h.siz).mono ?_
  rintro e w' ⟨rfl, hb, b⟩
  exact ⟨rfl, h.next b hb⟩
theorem writeByte_st (w : World) (N : Nat) (t : ByteArray) (n p : Int) (bs : List Value) (c : Int) (wk : World) (h : St w N t n p bs wk) (hlen : bs.length + 1 ≤ 140737488355328) :
    Calls Yba.prog 19 #[.pointer (some ⟨N + 1 + 1, 0, none⟩), .int .u8 c] wk fun e w' => e = .returned .nilIface ∧ St w N t n p (bs ++ [.int .u8 c]) w' := by
  refine (WriteByte_any _ _ bs c wk h.bld hlen h.siz).mono ?_
  rintro e w' ⟨rfl, hb, b⟩
  exact ⟨rfl, h.next b hb⟩

/-- .. and behind String(): the two boxes still lie there -/
structure Sb (w : World) (N : Nat) (t : ByteArray) (n p : Int) (wk : World) : Prop where
  box : wk.heap[N]? = some (.cells (refBox t n p) 23 (0, 0))
  res : wk.heap[N + 1]? = some (.cells zeroBox 23 (0, 0))
  bel : Below N w wk
  siz : N + 1 + 1 ≤ wk.heap.size
theorem Sb.cells {w : World} {N : Nat} {t : ByteArray} {n p : Int} {wk : World} (h : Sb w N t n p wk) :
    (wk.cell? ⟨N, 0, none⟩ = some (.string t) ∧ wk.cell? ⟨N, 1, none⟩ = some (.int .i64 n) ∧ wk.cell? ⟨N, 2, none⟩ = some (.int .u8 p) ∧ wk.cell? ⟨N, 3, none⟩ = some (.int .u8 0))
    ∧ (wk.cell? ⟨N + 1, 0, none⟩ = some (.string ⟨#[]⟩) ∧ wk.cell? ⟨N + 1, 1, none⟩ = some (.int .i64 0) ∧ wk.cell? ⟨N + 1, 2, none⟩ = some (.int .u8 0) ∧ wk.cell? ⟨N + 1, 3, none⟩ = some (.int .u8 0))
    ∧ (∀ j, wk.frozen? ⟨N + 1, j, none⟩ = false) := by
  refine ⟨⟨?_, ?_, ?_, ?_⟩, ⟨?_, ?_, ?_, ?_⟩, fun j => Lib.frozen_of_heap h.res j⟩
  all_goals first
    | (rw [Lib.cell_of_heap h.box]; rfl)
    | (rw [Lib.cell_of_heap h.res]; rfl)
theorem St.sb {w : World} {N : Nat} {t : ByteArray} {n p : Int} {bs : List Value} {wk : World} (h : St w N t n p bs wk) : Sb w N t n p wk := ⟨h.box, h.res, h.bel, h.siz⟩
theorem string_st (w : World) (N : Nat) (t : ByteArray) (n p : Int) (s : ByteArray) (wk : World) (h : St w N t n p (Lib.strCells s) wk) :
    Calls Yba.prog 20 #[.pointer (some ⟨N + 1 + 1, 0, none⟩)] wk fun e w' => e = .returned (.string s) ∧ Sb w N t n p w' := by
  refine (String_any _ _ _ s wk h.bld h.siz).mono ?_
  rintro e w' ⟨rfl, b⟩
  exact ⟨rfl, by rw [b.block N (by omega)]; exact h.box, by rw [b.block (N + 1) (by omega)]; exact h.res, h.bel.trans (b.mono (by omega)), Nat.le_trans h.siz b.size⟩
theorem path_st (t : ByteArray) (n p : Int) (hp0 : 0 ≤ p) (hp : p ≤ 255) (hpn : p ≤ n) (hn : n ≤ t.size) (ht : t.size ≤ 10000) (w : World) :
    Calls Yba.prog 11 #[.agg #[.string t, .int .i64 n, .int .u8 p, .int .u8 0]] w fun e w' => ∃ s : ByteArray, (s.size : Int) = p ∧ e = .returned (.string s) ∧ w' = w.alloc (.cells #[.string t, .int .i64 n, .int .u8 p, .int .u8 0] 23) := by
  refine (path_any t n p 0 hp0 hp hpn hn ht w).mono ?_
  rintro e w' ⟨rfl, rfl⟩
  exact ⟨_, by simp; omega, rfl, rfl⟩

theorem size_al (w : World) (o : Obj) : (w.alloc o).heap.size = w.heap.size + 1 := by simp
theorem h4_0 (w : World) (a b c d : Obj) : ((((w.alloc a).alloc b).alloc c).alloc d).heap[w.heap.size]? = some a := by
  rw [Lib.alloc_old _ _ _ (by simp only [size_al]; omega), Lib.alloc_old _ _ _ (by simp only [size_al]; omega), Lib.alloc_old _ _ _ (by simp only [size_al]; omega)]
  exact heap_alloc_new w a
theorem h4_1 (w : World) (a b c d : Obj) : ((((w.alloc a).alloc b).alloc c).alloc d).heap[w.heap.size + 1]? = some b := by
  rw [Lib.alloc_old _ _ _ (by simp only [size_al]; omega), Lib.alloc_old _ _ _ (by simp only [size_al]; omega), ← size_al w a]
  exact heap_alloc_new _ b
theorem h4_2 (w : World) (a b c d : Obj) : ((((w.alloc a).alloc b).alloc c).alloc d).heap[w.heap.size + 1 + 1]? = some c := by
  rw [Lib.alloc_old _ _ _ (by simp only [size_al]; omega), ← size_al w a, ← size_al _ b]
  exact heap_alloc_new _ c
theorem h4_b (w : World) (a b c d : Obj) : Below w.heap.size w ((((w.alloc a).alloc b).alloc c).alloc d) :=
  ((((Below.refl _ _).alloc (Nat.le_refl _) _).alloc (by simp only [size_al]; omega) _).alloc (by simp only [size_al]; omega) _).alloc (by simp only [size_al]; omega) _
/-- the result's four cells, behind the four stores and two boxes more -/
theorem fin4 {W : World} {N : Nat} (h : W.heap[N + 1]? = some (.cells zeroBox 23 (0, 0))) (v0 v1 v2 v3 : Value) (o1 o2 : Obj) (j : Nat) :
    ((((((W.setCell ⟨N + 1, 0, none⟩ v0).setCell ⟨N + 1, 1, none⟩ v1).setCell ⟨N + 1, 2, none⟩ v2).setCell ⟨N + 1, 3, none⟩ v3).alloc o1).alloc o2).cell? ⟨N + 1, j, none⟩ = (#[v0, v1, v2, v3] : Array Value)[j]? := by
  have hlt : N + 1 < W.heap.size := by
    rcases Nat.lt_or_ge (N + 1) W.heap.size with h' | h'
    · exact h'
    · simp [Array.getElem?_eq_none h'] at h
  have k : ((((W.setCell ⟨N + 1, 0, none⟩ v0).setCell ⟨N + 1, 1, none⟩ v1).setCell ⟨N + 1, 2, none⟩ v2).setCell ⟨N + 1, 3, none⟩ v3).heap[N + 1]? = some (.cells #[v0, v1, v2, v3] 23 (0, 0)) := by
    simp [World.setCell, Array.getElem?_modify, h, zeroBox]
  have z : ((((W.setCell ⟨N + 1, 0, none⟩ v0).setCell ⟨N + 1, 1, none⟩ v1).setCell ⟨N + 1, 2, none⟩ v2).setCell ⟨N + 1, 3, none⟩ v3).heap.size = W.heap.size := by simp [World.setCell]
  have l : ((((((W.setCell ⟨N + 1, 0, none⟩ v0).setCell ⟨N + 1, 1, none⟩ v1).setCell ⟨N + 1, 2, none⟩ v2).setCell ⟨N + 1, 3, none⟩ v3).alloc o1).alloc o2).heap[N + 1]? = some (.cells #[v0, v1, v2, v3] 23 (0, 0)) := by
    rw [Lib.alloc_old _ _ _ (by rw [size_al, z]; omega), Lib.alloc_old _ _ _ (by rw [z]; omega)]
    exact k
  rw [Lib.cell_of_heap l]
theorem finB {w W : World} {N : Nat} (h : Below N w W) (hz : N ≤ W.heap.size) (v0 v1 v2 v3 : Value) (o1 o2 : Obj) :
    Below N w ((((((W.setCell ⟨N + 1, 0, none⟩ v0).setCell ⟨N + 1, 1, none⟩ v1).setCell ⟨N + 1, 2, none⟩ v2).setCell ⟨N + 1, 3, none⟩ v3).alloc o1).alloc o2) := by
  have z : ((((W.setCell ⟨N + 1, 0, none⟩ v0).setCell ⟨N + 1, 1, none⟩ v1).setCell ⟨N + 1, 2, none⟩ v2).setCell ⟨N + 1, 3, none⟩ v3).heap.size = W.heap.size := by simp [World.setCell]
  refine Below.alloc (Below.alloc ?_ (by rw [z]; exact hz) _) (by rw [size_al, z]; omega) _
  exact (((h.setCell (p := ⟨N + 1, 0, none⟩) (Nat.le_succ N) v0).setCell (p := ⟨N + 1, 1, none⟩) (Nat.le_succ N) v1).setCell (p := ⟨N + 1, 2, none⟩) (Nat.le_succ N) v2).setCell (p := ⟨N + 1, 3, none⟩) (Nat.le_succ N) v3
theorem size58 : (⟨#[58]⟩ : ByteArray).size = 1 := rfl
theorem size64 : (⟨#[64]⟩ : ByteArray).size = 1 := rfl
theorem St.drew {w : World} {N : Nat} {t : ByteArray} {n p : Int} {bs : List Value} {wk : World} (h : St w N t n p bs wk) : St w N t n p bs wk.drew := ⟨h.box, h.res, h.bld.drew, h.bel.drew, h.siz⟩
theorem newRef_int (t : ByteArray) (n p q : Int) (hp0 : 0 ≤ p) (hp : p ≤ 255) (hq0 : 0 ≤ q) (hq : q ≤ 255) (w : World) :
    Calls Yba.prog 16 #[.string t, .int .i64 n, .int .i64 p, .int .i64 q] w fun e w' => e = .returned (.agg #[.string t, .int .i64 n, .int .u8 p, .int .u8 q]) ∧ w' = w.alloc (.cells #[.string t, .int .i64 n, .int .u8 p, .int .u8 q] 23) := by
  go_enter Yba.func16, Yba.ntmps16
  go_wp2
  exact bodyPost_ret (v := .agg #[.string t, .int .i64 n, .int .u8 p, .int .u8 q]) (by simp [results, Yba.results16, go_sem]) rfl ⟨rfl, rfl⟩
theorem cells_58 (s : ByteArray) : Lib.strCells s ++ [.int .u8 58] = Lib.strCells (s ++ ⟨#[58]⟩) := by
  simp [Lib.strCells]
theorem cells_64 (s : ByteArray) : Lib.strCells s ++ [.int .u8 64] = Lib.strCells (s ++ ⟨#[64]⟩) := by
  simp [Lib.strCells]
theorem cells_str (s r : ByteArray) : Lib.strCells s ++ Lib.strCells r = Lib.strCells (s ++ r) := by
  simp [Lib.strCells]

set_option maxHeartbeats 4000000 in
set_option maxRecDepth 100000 in
theorem with_both (t : ByteArray) (tag : ByteArray) (htag : tag.size ≤ 255) (et : tag.toList.isEmpty = false) (dig : ByteArray) (hdig : dig.size ≤ 4096) (ed : dig.toList.isEmpty = false) (n p : Int) (hp0 : 0 ≤ p) (hp : p ≤ 255) (hpn : p ≤ n) (hn : n ≤ t.size) (ht : t.size ≤ 10000) (w : World) :
    Calls Yba.prog 12 #[.agg #[.string t, .int .i64 n, .int .u8 p, .int .u8 0], .string tag, .string dig] w fun e w' => (∃ rest : ByteArray, rest.size ≤ 10000 ∧ e = .returned (.agg #[.string (t.extract 0 n.toNat ++ rest), .int .i64 n, .int .u8 p, .int .u8 ↑tag.size])) ∧ Below w.heap.size w w' := by
  have hnm : ((t.extract 0 n.toNat).size : Int) = n := by simp; omega
  go_enter Yba.func12, Yba.ntmps12
  go_wp2_with fail
  refine (name_any t n p 0 (by omega) (by omega) _).mono ?_
  rintro e w' ⟨rfl, rfl⟩
  generalize hname : t.extract 0 n.toNat = name at *
  have Hname : Hid (t.extract 0 n.toNat = name) := hname
  clear hname
  have hns : (name.size : Int) ≤ 10000 := by omega
  go_wp2_with fail
  refine (grow_st w t n p _ (by omega) (by omega) _ ?_ ?_ ?_ ?_ ?_).mono ?_
  · exact h4_0 w _ _ _ _
  · exact h4_1 w _ _ _ _
  · exact h4_2 w _ _ _ _
  · exact h4_b w _ _ _ _
  · simp only [size_al]; omega
  rintro e w1 ⟨rfl, s1⟩
  go_wp2_with fail
  refine (writeString_st w _ t n p [] name _ s1 (by simp; omega)).mono ?_
  rintro e w2 ⟨rfl, s2⟩
  clear s1
  rw [List.nil_append] at s2
  go_wp2_with fail
  refine (writeByte_st w _ t n p _ 58 _ s2 (by rw [Lib.strCells_length]; omega)).mono ?_
  rintro e w3 ⟨rfl, s3⟩
  clear s2
  rw [cells_58] at s3
  go_wp2_with fail
  refine (writeString_st w _ t n p _ tag _ s3 (by rw [Lib.strCells_length]; simp [size58]; omega)).mono ?_
  rintro e w4 ⟨rfl, s4⟩
  clear s3
  rw [cells_str] at s4
  go_wp2_with fail
  refine (writeByte_st w _ t n p _ 64 _ s4 (by rw [Lib.strCells_length]; simp [size58]; omega)).mono ?_
  rintro e w5 ⟨rfl, s5⟩
  clear s4
  rw [cells_64] at s5
  go_wp2_with fail
  refine (writeString_st w _ t n p _ dig _ s5 (by rw [Lib.strCells_length]; simp [size58, size64]; omega)).mono ?_
  rintro e w6 ⟨rfl, s6⟩
  clear s5
  rw [cells_str] at s6
  go_wp2_with fail
  obtain ⟨⟨q0, q1, q2, q3⟩, _, _⟩ := s6.sb.cells
  have hss := string_st w _ t n p _ _ s6.drew
  have hq0 : (0 : Int) ≤ (tag.size : Int) := Int.natCast_nonneg _
  have hq : (tag.size : Int) ≤ 255 := by omega
  go_region_with (first
    | (go_at_call 20; refine hss.mono ?_; rintro e w7 ⟨rfl, s7⟩; obtain ⟨⟨r0, r1, r2, r3⟩, ⟨y0, y1, y2, y3⟩, f7⟩ := s7.cells; have hz7 : w.heap.size + 1 < w7.heap.size := s7.siz; have hy7 : w.heap.size < w7.heap.size := Nat.lt_of_succ_lt s7.siz)
    | (go_at_call 11; refine (path_st t n p hp0 hp hpn hn ht _).mono ?_; rintro e w8 ⟨ps, hps, rfl, rfl⟩)
    | (go_at_call 16; refine (newRef_int _ n p _ hp0 hp hq0 hq _).mono ?_; rintro e w9 ⟨rfl, rfl⟩))
  all_goals
    go_wp2
    refine bodyPost_ret (v := .agg #[.string (name ++ ⟨#[58]⟩ ++ tag ++ ⟨#[64]⟩ ++ dig), .int .i64 n, .int .u8 p, .int .u8 ↑tag.size]) (by simp [results, Yba.results12, go_sem, fin4 s7.res]) rfl ⟨⟨⟨#[58]⟩ ++ tag ++ ⟨#[64]⟩ ++ dig, ?_, ?_⟩, ?_⟩
    · simp [size58, size64]; omega
    · rw [Hname.out]; simp only [ByteArray.append_assoc]
    · exact finB s7.bel (Nat.le_of_lt hy7) _ _ _ _ _ _

set_option maxHeartbeats 4000000 in
set_option maxRecDepth 100000 in
theorem with_tag (t : ByteArray) (tag : ByteArray) (htag : tag.size ≤ 255) (et : tag.toList.isEmpty = false) (n p : Int) (hp0 : 0 ≤ p) (hp : p ≤ 255) (hpn : p ≤ n) (hn : n ≤ t.size) (ht : t.size ≤ 10000) (w : World) :
    Calls Yba.prog 12 #[.agg #[.string t, .int .i64 n, .int .u8 p, .int .u8 0], .string tag, .string ByteArray.empty] w fun e w' => (∃ rest : ByteArray, rest.size ≤ 10000 ∧ e = .returned (.agg #[.string (t.extract 0 n.toNat ++ rest), .int .i64 n, .int .u8 p, .int .u8 ↑tag.size])) ∧ Below w.heap.size w w' := by
  have hnm : ((t.extract 0 n.toNat).size : Int) = n := by simp; omega
  go_enter Yba.func12, Yba.ntmps12
  go_wp2_with fail
  refine (name_any t n p 0 (by omega) (by omega) _).mono ?_
  rintro e w' ⟨rfl, rfl⟩
  generalize hname : t.extract 0 n.toNat = name at *
  have Hname : Hid (t.extract 0 n.toNat = name) := hname
  clear hname
  have hns : (name.size : Int) ≤ 10000 := by omega
  go_wp2_with fail
  refine (grow_st w t n p _ (by omega) (by omega) _ ?_ ?_ ?_ ?_ ?_).mono ?_
  · exact h4_0 w _ _ _ _
  · exact h4_1 w _ _ _ _
  · exact h4_2 w _ _ _ _
  · exact h4_b w _ _ _ _
  · simp only [size_al]; omega
  rintro e w1 ⟨rfl, s1⟩
  go_wp2_with fail
  refine (writeString_st w _ t n p [] name _ s1 (by simp; omega)).mono ?_
  rintro e w2 ⟨rfl, s2⟩
  clear s1
  rw [List.nil_append] at s2
  go_wp2_with fail
  refine (writeByte_st w _ t n p _ 58 _ s2 (by rw [Lib.strCells_length]; omega)).mono ?_
  rintro e w3 ⟨rfl, s3⟩
  clear s2
  rw [cells_58] at s3
  go_wp2_with fail
  refine (writeString_st w _ t n p _ tag _ s3 (by rw [Lib.strCells_length]; simp [size58]; omega)).mono ?_
  rintro e w4 ⟨rfl, s4⟩
  clear s3
  rw [cells_str] at s4
  go_wp2_with fail
  obtain ⟨⟨q0, q1, q2, q3⟩, _, _⟩ := s4.sb.cells
  have hss := string_st w _ t n p _ _ s4.drew
  have hq0 : (0 : Int) ≤ (tag.size : Int) := Int.natCast_nonneg _
  have hq : (tag.size : Int) ≤ 255 := by omega
  go_region_with (first
    | (go_at_call 20; refine hss.mono ?_; rintro e w7 ⟨rfl, s7⟩; obtain ⟨⟨r0, r1, r2, r3⟩, ⟨y0, y1, y2, y3⟩, f7⟩ := s7.cells; have hz7 : w.heap.size + 1 < w7.heap.size := s7.siz; have hy7 : w.heap.size < w7.heap.size := Nat.lt_of_succ_lt s7.siz)
    | (go_at_call 11; refine (path_st t n p hp0 hp hpn hn ht _).mono ?_; rintro e w8 ⟨ps, hps, rfl, rfl⟩)
    | (go_at_call 16; refine (newRef_int _ n p _ hp0 hp hq0 hq _).mono ?_; rintro e w9 ⟨rfl, rfl⟩))
  all_goals
    go_wp2
    refine bodyPost_ret (v := .agg #[.string (name ++ ⟨#[58]⟩ ++ tag), .int .i64 n, .int .u8 p, .int .u8 ↑tag.size]) (by simp [results, Yba.results12, go_sem, fin4 s7.res]) rfl ⟨⟨⟨#[58]⟩ ++ tag, ?_, ?_⟩, ?_⟩
    · simp [size58]; omega
    · rw [Hname.out]; simp only [ByteArray.append_assoc]
    · exact finB s7.bel (Nat.le_of_lt hy7) _ _ _ _ _ _

set_option maxHeartbeats 4000000 in
set_option maxRecDepth 100000 in
theorem with_dig (t : ByteArray) (dig : ByteArray) (hdig : dig.size ≤ 4096) (ed : dig.toList.isEmpty = false) (n p : Int) (hp0 : 0 ≤ p) (hp : p ≤ 255) (hpn : p ≤ n) (hn : n ≤ t.size) (ht : t.size ≤ 10000) (w : World) :
    Calls Yba.prog 12 #[.agg #[.string t, .int .i64 n, .int .u8 p, .int .u8 0], .string ByteArray.empty, .string dig] w fun e w' => (∃ rest : ByteArray, rest.size ≤ 10000 ∧ e = .returned (.agg #[.string (t.extract 0 n.toNat ++ rest), .int .i64 n, .int .u8 p, .int .u8 0])) ∧ Below w.heap.size w w' := by
  have hnm : ((t.extract 0 n.toNat).size : Int) = n := by simp; omega
  go_enter Yba.func12, Yba.ntmps12
  go_wp2_with fail
  refine (name_any t n p 0 (by omega) (by omega) _).mono ?_
  rintro e w' ⟨rfl, rfl⟩
  generalize hname : t.extract 0 n.toNat = name at *
  have Hname : Hid (t.extract 0 n.toNat = name) := hname
  clear hname
  have hns : (name.size : Int) ≤ 10000 := by omega
  go_wp2_with fail
  refine (grow_st w t n p _ (by omega) (by omega) _ ?_ ?_ ?_ ?_ ?_).mono ?_
  · exact h4_0 w _ _ _ _
  · exact h4_1 w _ _ _ _
  · exact h4_2 w _ _ _ _
  · exact h4_b w _ _ _ _
  · simp only [size_al]; omega
  rintro e w1 ⟨rfl, s1⟩
  go_wp2_with fail
  refine (writeString_st w _ t n p [] name _ s1 (by simp; omega)).mono ?_
  rintro e w2 ⟨rfl, s2⟩
  clear s1
  rw [List.nil_append] at s2
  go_wp2_with fail
  refine (writeByte_st w _ t n p _ 64 _ s2 (by rw [Lib.strCells_length]; omega)).mono ?_
  rintro e w3 ⟨rfl, s3⟩
  clear s2
  rw [cells_64] at s3
  go_wp2_with fail
  refine (writeString_st w _ t n p _ dig _ s3 (by rw [Lib.strCells_length]; simp [size64]; omega)).mono ?_
  rintro e w4 ⟨rfl, s4⟩
  clear s3
  rw [cells_str] at s4
  go_wp2_with fail
  obtain ⟨⟨q0, q1, q2, q3⟩, _, _⟩ := s4.sb.cells
  have hss := string_st w _ t n p _ _ s4.drew
  have hq0 : (0 : Int) ≤ 0 := Int.le_refl _
  have hq : (0 : Int) ≤ 255 := by decide
  go_region_with (first
    | (go_at_call 20; refine hss.mono ?_; rintro e w7 ⟨rfl, s7⟩; obtain ⟨⟨r0, r1, r2, r3⟩, ⟨y0, y1, y2, y3⟩, f7⟩ := s7.cells; have hz7 : w.heap.size + 1 < w7.heap.size := s7.siz; have hy7 : w.heap.size < w7.heap.size := Nat.lt_of_succ_lt s7.siz)
    | (go_at_call 11; refine (path_st t n p hp0 hp hpn hn ht _).mono ?_; rintro e w8 ⟨ps, hps, rfl, rfl⟩)
    | (go_at_call 16; refine (newRef_int _ n p _ hp0 hp hq0 hq _).mono ?_; rintro e w9 ⟨rfl, rfl⟩))
  all_goals
    go_wp2
    refine bodyPost_ret (v := .agg #[.string (name ++ ⟨#[64]⟩ ++ dig), .int .i64 n, .int .u8 p, .int .u8 0]) (by simp [results, Yba.results12, go_sem, fin4 s7.res]) rfl ⟨⟨⟨#[64]⟩ ++ dig, ?_, ?_⟩, ?_⟩
    · simp [size64]; omega
    · rw [Hname.out]; simp only [ByteArray.append_assoc]
    · exact finB s7.bel (Nat.le_of_lt hy7) _ _ _ _ _ _

set_option maxHeartbeats 4000000 in
set_option maxRecDepth 100000 in
theorem with_none (t : ByteArray)  (n p : Int) (hp0 : 0 ≤ p) (hp : p ≤ 255) (hpn : p ≤ n) (hn : n ≤ t.size) (ht : t.size ≤ 10000) (w : World) :
    Calls Yba.prog 12 #[.agg #[.string t, .int .i64 n, .int .u8 p, .int .u8 0], .string ByteArray.empty, .string ByteArray.empty] w fun e w' => (∃ rest : ByteArray, rest.size ≤ 10000 ∧ e = .returned (.agg #[.string (t.extract 0 n.toNat ++ rest), .int .i64 n, .int .u8 p, .int .u8 0])) ∧ Below w.heap.size w w' := by
  have hnm : ((t.extract 0 n.toNat).size : Int) = n := by simp; omega
  go_enter Yba.func12, Yba.ntmps12
  go_wp2_with fail
  refine (name_any t n p 0 (by omega) (by omega) _).mono ?_
  rintro e w' ⟨rfl, rfl⟩
  generalize hname : t.extract 0 n.toNat = name at *
  have Hname : Hid (t.extract 0 n.toNat = name) := hname
  clear hname
  have hns : (name.size : Int) ≤ 10000 := by omega
  go_wp2_with fail
  refine (grow_st w t n p _ (by omega) (by omega) _ ?_ ?_ ?_ ?_ ?_).mono ?_
  · exact h4_0 w _ _ _ _
  · exact h4_1 w _ _ _ _
  · exact h4_2 w _ _ _ _
  · exact h4_b w _ _ _ _
  · simp only [size_al]; omega
  rintro e w1 ⟨rfl, s1⟩
  go_wp2_with fail
  refine (writeString_st w _ t n p [] name _ s1 (by simp; omega)).mono ?_
  rintro e w2 ⟨rfl, s2⟩
  clear s1
  rw [List.nil_append] at s2
  go_wp2_with fail
  obtain ⟨⟨q0, q1, q2, q3⟩, _, _⟩ := s2.sb.cells
  have hss := string_st w _ t n p _ _ s2.drew
  have hq0 : (0 : Int) ≤ 0 := Int.le_refl _
  have hq : (0 : Int) ≤ 255 := by decide
  go_region_with (first
    | (go_at_call 20; refine hss.mono ?_; rintro e w7 ⟨rfl, s7⟩; obtain ⟨⟨r0, r1, r2, r3⟩, ⟨y0, y1, y2, y3⟩, f7⟩ := s7.cells; have hz7 : w.heap.size + 1 < w7.heap.size := s7.siz; have hy7 : w.heap.size < w7.heap.size := Nat.lt_of_succ_lt s7.siz)
    | (go_at_call 11; refine (path_st t n p hp0 hp hpn hn ht _).mono ?_; rintro e w8 ⟨ps, hps, rfl, rfl⟩)
    | (go_at_call 16; refine (newRef_int _ n p _ hp0 hp hq0 hq _).mono ?_; rintro e w9 ⟨rfl, rfl⟩))
  all_goals
    go_wp2
    refine bodyPost_ret (v := .agg #[.string (name), .int .i64 n, .int .u8 p, .int .u8 0]) (by simp [results, Yba.results12, go_sem, fin4 s7.res]) rfl ⟨⟨ByteArray.empty, ?_, ?_⟩, ?_⟩
    · exact Nat.zero_le _
    · rw [Hname.out, ByteArray.append_empty]
    · exact finB s7.bel (Nat.le_of_lt hy7) _ _ _ _ _ _

/-- withTagAndDigest: the name, followed by whatever; the lengths as they were -/
theorem with_any (t tag dig : ByteArray) (htag : tag.size ≤ 255) (hdig : dig.size ≤ 4096) (n p : Int) (hp0 : 0 ≤ p) (hp : p ≤ 255) (hpn : p ≤ n) (hn : n ≤ t.size) (ht : t.size ≤ 10000) (w : World) :
    Calls Yba.prog 12 #[.agg #[.string t, .int .i64 n, .int .u8 p, .int .u8 0], .string tag, .string dig] w fun e w' => (∃ (rest : ByteArray) (q : Int), rest.size ≤ 10000 ∧ e = .returned (.agg #[.string (t.extract 0 n.toNat ++ rest), .int .i64 n, .int .u8 p, .int .u8 q])) ∧ Below w.heap.size w w' := by
  by_cases h1 : tag = ByteArray.empty
  · by_cases h2 : dig = ByteArray.empty
    · subst h1; subst h2
      refine (with_none t n p hp0 hp hpn hn ht w).mono ?_
      rintro e w' ⟨⟨rest, hr, he⟩, b⟩
      exact ⟨⟨rest, _, hr, he⟩, b⟩
    · subst h1
      refine (with_dig t dig hdig (not_empty dig h2).1 n p hp0 hp hpn hn ht w).mono ?_
      rintro e w' ⟨⟨rest, hr, he⟩, b⟩
      exact ⟨⟨rest, _, hr, he⟩, b⟩
  · by_cases h2 : dig = ByteArray.empty
    · subst h2
      refine (with_tag t tag htag (not_empty tag h1).1 n p hp0 hp hpn hn ht w).mono ?_
      rintro e w' ⟨⟨rest, hr, he⟩, b⟩
      exact ⟨⟨rest, _, hr, he⟩, b⟩
    · refine (with_both t tag htag (not_empty tag h1).1 dig hdig (not_empty dig h2).1 n p hp0 hp hpn hn ht w).mono ?_
      rintro e w' ⟨⟨rest, hr, he⟩, b⟩
      exact ⟨⟨rest, _, hr, he⟩, b⟩
end Go.Proofs.Ybulkafqe
