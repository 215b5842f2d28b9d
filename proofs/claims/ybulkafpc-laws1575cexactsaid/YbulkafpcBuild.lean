/-
  CONTRACT of zzs1575cbuild (13).
-/
import Derived.Test.YbulkafpcCsame
import Derived.Laws.MakeOwn
namespace Go.Proofs.Ybulkafpc
open Go.RowKit
theorem flat_get (L : List Tok) (q r : Nat) (hr : r < 168) (hq : q < L.length) : (flat L)[q * 168 + r]? = (tokCells L[q])[r]? := by
  have hlen : (flat (L.take q)).length = q * 168 := by rw [flat_length, List.length_take]; congr 1; omega
  have hl := tokCells_length L[q]
  rw [flat_at L q hq, List.getElem?_append_right (by omega), hlen, Nat.add_sub_cancel_left, List.getElem?_append_left (by omega)]
theorem flat_set (L : List Tok) (j : Nat) (hj : j < L.length) (t : Tok) : splice (flat L) (j * 168) (tokCells t) = flat (L.set j t) := by
  have hlen : (flat (L.take j)).length = j * 168 := by rw [flat_length, List.length_take]; congr 1; omega
  rw [flat_at L j hj, splice_mid _ _ _ _ _ hlen (by rw [tokCells_length, tokCells_length])]
  rw [flat_at (L.set j t) j (by simpa using hj), List.take_set_of_le (Nat.le_refl _), List.drop_set_of_lt (by omega)]
  simp
theorem made60 (n : Nat) : madeCells (tokCells zt).toArray (n * 168) = (flat (List.replicate n zt)).toArray := by
  apply Array.ext_getElem?
  intro k
  rcases Nat.lt_or_ge k (n * 168) with h | h
  · have hq : k / 168 < n := by omega
    have hr : k % 168 < 168 := by omega
    have e := flat_get (List.replicate n zt) (k / 168) (k % 168) hr (by simpa using hq)
    rw [show k / 168 * 168 + k % 168 = k by omega] at e
    have hl := tokCells_length zt
    rw [show (flat (List.replicate n zt)).toArray[k]? = (flat (List.replicate n zt))[k]? by simp, e]
    simp only [List.getElem_replicate]
    simp only [madeCells, List.size_toArray, hl]
    rw [List.getElem?_eq_getElem (by omega)]
    simp [h, hl, hr]
  · rw [Array.getElem?_eq_none (by rw [size_madeCells]; exact h), List.getElem?_toArray, List.getElem?_eq_none (by rw [flat_length]; simpa using h)]
theorem info60 : ∃ i, Yba.prog.info? 60 = some i ∧ i.zero = some (.agg (tokCells zt).toArray) ∧ i.size = 168 ∧ i.bytes = 248 := by
  have h := zero60
  rw [Option.map_eq_some_iff] at h
  obtain ⟨i, hi, he⟩ := h
  simp only [Prod.mk.injEq] at he
  exact ⟨i, hi, he.1, he.2.1, he.2.2⟩
theorem make60 (n : Nat) (hn : n ≤ 256) (w : World) : (Instr.makeSlice 42 (.int .i64 n) (.int .i64 n)).run Yba.prog w = .ok (.slice (some ⟨w.heap.size, 0, none⟩) n n) (w.alloc (.cells (flat (List.replicate n zt)).toArray 60)) := by
  obtain ⟨i, h1, h2, h3, h4⟩ := info60
  have := run_make (P := Yba.prog) w 42 60 i _ Yba.underlying42 h1 h2 .i64 .i64 (n : Int) (n : Int) (by omega) (Int.le_refl _) (by rw [h4]; omega) (by omega)
  rw [this, h3]
  simp only [Int.toNat_natCast, Value.cells]
  rw [made60]
/-- the argument's rows -/
def PathsAt (w : World) (b o : Nat) (ps : List Path) : Prop := ∀ i (h : i < ps.length), w.rangeAt b (o + i * 14) (pcells ps[i])
theorem PathsAt.old {w w' : World} {b o : Nat} {ps : List Path} (h : PathsAt w b o ps) (hb : Below w.heap.size w w') : PathsAt w' b o ps := fun i hi => range_old (h i hi) hb
theorem size47 (p : Path) : (Yba.prog.info? 47).map (·.size) = some (pcells p).length := by kernel_rfl
def part (ps : List Path) (j : Nat) : List Tok := (ps.take j).map mk ++ List.replicate (ps.length - j) zt
theorem part_length (ps : List Path) (j : Nat) (h : j ≤ ps.length) : (part ps j).length = ps.length := by simp [part]; omega
theorem part_set (ps : List Path) (j : Nat) (h : j < ps.length) : (part ps j).set j (mk ps[j]) = part ps (j + 1) := by
  unfold part
  have hl : ((ps.take j).map mk).length = j := by simp; omega
  rw [List.set_append_right _ _ (by omega), hl, Nat.sub_self]
  rw [show ps.length - j = (ps.length - (j + 1)) + 1 by omega, List.replicate_succ, List.set_cons_zero, List.take_succ_eq_append_getElem h, List.map_append]
  simp
set_option maxHeartbeats 1000000 in
set_option maxRecDepth 10000 in
/-- zzs1575cbuild -/
theorem build_any (b o n cap : Nat) (ps : List Path) (hn : ps.length = n) (h256 : n ≤ 256) (hok : ∀ p ∈ ps, p.ok) (w : World) (hp : PathsAt w b o ps) :
    Calls Yba.prog 13 #[.slice (some ⟨b, o, none⟩) n cap] w fun e w' => e = .returned (.slice (some ⟨w.heap.size, 0, none⟩) n n) ∧ Blk w' w.heap.size 60 (flat (ps.map mk)) ∧ Below w.heap.size w w' := by
  have hmk := make60 n h256 w
  have b0 : Blk (w.alloc (.cells (flat (List.replicate n zt)).toArray 60)) w.heap.size 60 (flat (part ps 0)) := by
    have := Blk.new w (flat (List.replicate n zt)) 60
    simpa [part, hn] using this
  have bb : Below w.heap.size w (w.alloc (.cells (flat (List.replicate n zt)).toArray 60)) := (Below.refl _ w).alloc (Nat.le_refl _) _
  generalize w.alloc (.cells (flat (List.replicate n zt)).toArray 60) = W0 at hmk b0 bb
  have gt0 : (0 : Int) ≤ (n : Int) := by omega
  go_enter Yba.func13, Yba.ntmps13
  go_wp2
  go_loopw [10] (fun i w' => ∃ j : Nat, j ≤ n ∧ i = .int .i64 j ∧ Blk w' w.heap.size 60 (flat (part ps j)) ∧ Below w.heap.size w w') (fun i _ => n - (intOf i).toNat)
  case atStart => exact ⟨0, Nat.zero_le _, rfl, b0, bb⟩
  case round =>
    obtain ⟨j, hj, rfl, hbk, hbel⟩ := hrel
    by_cases hlt : j < n
    · have hjp : j < ps.length := by omega
      have hrg : wr.rangeAt b (o + j * 14) (pcells ps[j]) := hp.old hbel j hjp
      have hc := cmk_any ps[j] (hok _ (List.getElem_mem hjp)) wr
      have hpl := part_length ps j (by omega)
      have hfit : j * 168 + (tokCells (mk ps[j])).length ≤ (flat (part ps j)).length := by rw [flat_length, tokCells_length, hpl]; omega
      have hlen := hbk.lt
      clear hp hok hmk b0 bb
      go_wp2_with (first
        | (refine wpList_load_blk (by rfl) 47 _ (by rfl) b (o + j * 14) (by rfl) (pcells ps[j]) _ hrg Yba.underlying47 rfl (size47 _) ?_)
        | (go_at_call 15; refine hc.mono ?_; rintro e w2 ⟨rfl, b2⟩)
        | (refine wpList_store_blk (by rfl) 60 _ _ (by rfl) w.heap.size (j * 168) (tokCells (mk ps[j])) (by rfl) (by rfl) 60 (flat (part ps j)) (hbk.old b2) hfit (size60 _) (tok_one _) ?_; intro W2 hn2 hg2 hs2))
      go_roundw
      case rel =>
        refine ⟨j + 1, by omega, by go_num, ?_, ?_⟩
        · rw [flat_set _ _ (by rw [hpl]; exact hjp), part_set ps j hjp] at hn2
          exact hn2
        · exact (hbel.trans (b2.mono hbel.size)).grown hg2 (Nat.le_trans hbel.size b2.size) (fun k hk => by cases hk; exact Nat.le_refl _)
      case measure => simp [intOf]; omega
    · obtain rfl : j = n := by omega
      go_wp2
      go_ret
      refine ⟨rfl, ?_, hbel⟩
      have e : part ps j = ps.map mk := by rw [← hn]; simp [part]
      rw [← e]; exact hbk
end Go.Proofs.Ybulkafpc
