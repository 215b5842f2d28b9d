/-
  THE WALKS of fieldName (6) and of LawS1582AHeaderName (3), for whatever fmt answers.
-/
import Derived.Test.YbulkafswFmtCards
import Derived.WalkKit
import Derived.ProofKit
import Derived.WalkSpells
import Derived.Laws.CopyOwn
import Derived.Deep.OwnRows
import Derived.Stop.CallBack
import Derived.Stop.IfaceNil
namespace Go.Proofs.YbulkafswFmt
open Go.RowKit Go.Extern.Stop Go.Stop Go.Extern
theorem call9 (args : Array Value) (w : World) : (callFunc 9 args).run Ybaf.prog w = ((FmtStop.sprintf #[9, 137] #[9] args).run Ybaf.prog w).andThen fun v w' => .ok (.value v) w' :=
  run_callFunc_extern Ybaf.func9 (by kernel_rfl) (by kernel_rfl) (by kernel_rfl) (by kernel_rfl) args w
theorem guard9 (name : String) (w : World) : (FmtStop.guard name).run Ybaf.prog w = .ok () w := by kernel_rfl
theorem fmt1 (w : World) : (FmtDoors.printed ⟨#[102, 105, 101, 108, 100, 32, 37, 100]⟩ 1).run Ybaf.prog w = .ok [(0, 100, false)] w := by kernel_rfl
theorem fmt1' : FmtStop.printed? ⟨#[102, 105, 101, 108, 100, 32, 37, 100]⟩ 1 = some [(0, 100, false)] := by kernel_rfl
def shape3 : List UInt8 := [5, 3, 0, 0, 0, 0, 0, 0, 0, 105, 110, 116]
theorem op3 (name : String) (x : Int) (w : World) : (FmtStop.operand name false 100 false (.iface 3 (.int .i64 x))).run Ybaf.prog w = .ok (shape3, Go.Extern.Stop.digits 8 (x % 2 ^ 64).toNat) w := by kernel_rfl
set_option maxHeartbeats 400000 in
set_option maxRecDepth 100000 in
theorem field_fmt (F : Interp) (b n c : Nat) (g : Option Addr) (i : Int) (hi0 : 0 ≤ i) (hi : i ≤ 100000) (hn : (n : Int) ≤ i) (w : World) (hF : F.answers w.tape) (h2 : w.cell? ⟨b, 2, none⟩ = some (.slice g n c)) :
    Calls Ybaf.prog 6 #[.pointer (some ⟨b, 0, none⟩), .int .i64 i] w fun e w' => (∃ s, e = .returned (.string s)) ∧ Below w.heap.size w w' := by
  have hF' := answers_open hF
  have k1 := call9
  have k2 := guard9
  have k3 := fmt1
  have k4 := fmt1'
  have k5 := op3
  go_enter Ybaf.func6, Ybaf.ntmps6
  go_wp2
  go_ret
  exact ⟨⟨_, rfl⟩, ((Below.refl _ w).alloc (Nat.le_refl _) _).drew⟩
set_option maxHeartbeats 400000 in
set_option maxRecDepth 100000 in
theorem field_empty (F : Interp) (b g n c : Nat) (i : Int) (hi0 : 0 ≤ i) (hi : i ≤ 100000) (hn : i < (n : Int)) (w : World) (hF : F.answers w.tape) (h2 : w.cell? ⟨b, 2, none⟩ = some (.slice (some ⟨g, 0, none⟩) n c)) (hs : w.cell? ⟨g, i.toNat, none⟩ = some (.string ByteArray.empty)) :
    Calls Ybaf.prog 6 #[.pointer (some ⟨b, 0, none⟩), .int .i64 i] w fun e w' => (∃ s, e = .returned (.string s)) ∧ Below w.heap.size w w' := by
  have hF' := answers_open hF
  have k1 := call9
  have k2 := guard9
  have k3 := fmt1
  have k4 := fmt1'
  have k5 := op3
  go_enter Ybaf.func6, Ybaf.ntmps6
  go_wp2
  go_ret
  exact ⟨⟨_, rfl⟩, ((Below.refl _ w).alloc (Nat.le_refl _) _).drew⟩
set_option maxHeartbeats 400000 in
set_option maxRecDepth 100000 in
theorem field_name (b g n c : Nat) (i : Int) (hi0 : 0 ≤ i) (hn : i < (n : Int)) (s : ByteArray) (he : s.toList.isEmpty = false) (w : World) (h2 : w.cell? ⟨b, 2, none⟩ = some (.slice (some ⟨g, 0, none⟩) n c)) (hs : w.cell? ⟨g, i.toNat, none⟩ = some (.string s)) :
    Calls Ybaf.prog 6 #[.pointer (some ⟨b, 0, none⟩), .int .i64 i] w fun e w' => e = .returned (.string s) ∧ w' = w := by
  go_enter Ybaf.func6, Ybaf.ntmps6
  go_wp2
  go_ret
  exact ⟨rfl, rfl⟩

theorem info9 : (Ybaf.prog.info? 9).map (fun i => (i.zero, i.size, i.bytes)) = some (some (.string ⟨#[]⟩), 1, 16) := by kernel_rfl
theorem size9 : (Ybaf.prog.info? 9).map (·.size) = some 1 := by kernel_rfl


/-- 'make' and 'copy' together: the run of the copy, told over the world behind the make -/
theorem copied (a : Addr) (cap : Nat) (ss : List ByteArray) (w : World) (hc : ∀ j v, (ss.map Value.string)[j]? = some v → w.cell? (a.add j) = some v) :
    ∃ W2, (Builtin.copy_ #[22, 22] 3 #[.slice (some ⟨w.heap.size, 0, none⟩) ss.length ss.length, .slice (some a) ss.length cap]).run Ybaf.prog (w.alloc (.cells (madeCells #[.string ⟨#[]⟩] ss.length) 9)) = .ok (.int .i64 ss.length) W2
      ∧ W2.heap[w.heap.size]? = some (.cells (ss.map Value.string).toArray 9 (0, 0)) ∧ Below w.heap.size w W2 ∧ W2.heap.size = w.heap.size + 1 := by
  have hb : Below w.heap.size w (w.alloc (.cells (madeCells #[.string ⟨#[]⟩] ss.length) 9)) := (Below.refl _ _).alloc (Nat.le_refl _) _
  have hr := run_copy_row (P := Ybaf.prog) (w.alloc (.cells (madeCells #[.string ⟨#[]⟩] ss.length) 9)) 22 22 3 9 w.heap.size 0 ss.length ss.length a ss.length cap _ 9 (ss.map Value.string) Ybaf.underlying22 size9 (heap_alloc_new w _) (by simp)
    (fun j v hj => cell_later hb (hc j v hj)) (by simp [size_madeCells]) (by intro v hv; simp at hv; obtain ⟨s, _, rfl⟩ := hv; rfl)
  refine ⟨_, by simpa [goInt] using hr, ?_, ?_, ?_⟩
  · rw [setRow_heap _ _ _ _ 9 _ (heap_alloc_new w _)]
    simp [size_madeCells]
  · exact below_setRow hb (Nat.le_refl _) _
  · simp [World.setRow]

theorem cell_heap {w : World} {b : Nat} {cs : Array Value} {T : TypeId} {fr : Nat × Nat} (hb : w.heap[b]? = some (.cells cs T fr)) (j : Nat) : w.cell? ⟨b, j, none⟩ = cs[j]? := by
  simp [World.cell?, hb]

set_option maxHeartbeats 1000000 in
set_option maxRecDepth 100000 in
theorem law_past (F : Interp) (a : Addr) (cap : Nat) (ss : List ByteArray) (u I : Int) (hu0 : 0 ≤ u) (hu1 : u ≤ 18446744073709551615) (hl : ss.length ≤ 1024) (w : World) (hF : F.answers w.tape)
    (hc : ∀ j v, (ss.map Value.string)[j]? = some v → w.cell? ((a : Addr).add j) = some v) (hI : u % ((ss.length : Int) + 3) = I) (hI0 : 0 ≤ I) (hI1 : I < (ss.length : Int) + 3) (hge : (ss.length : Int) ≤ I) :
    Calls Ybaf.prog 3 #[.slice (some a) ss.length cap, .int .u64 u] w fun e w' => e = .returned (.bool true) ∧ Below w.heap.size w w' := by
  obtain ⟨W2, hrun, hrow, hb2, hz⟩ := copied a cap ss w hc
  have hmk := fun W => run_make_row' (P := Ybaf.prog) 22 9 (.string ⟨#[]⟩) 16 Ybaf.underlying22 info9 rfl .i64 .i64 ss.length (by omega) (by omega) W
  have hnil := fun W (a : Option Addr) (l c n' c' : Nat) => Lib.run_eql_slice_nil (P := Ybaf.prog) W 22 9 a l c n' c' Ybaf.underlying22
  have hF2 : F.answers W2.tape := by rw [hb2.tape]; exact hF
  clear hc
  go_enter Ybaf.func3, Ybaf.ntmps3
  go_wp2_with fail
  refine (field_fmt F (w.heap.size + 1) ss.length ss.length (some ⟨w.heap.size, 0, none⟩) I hI0 (by omega) hge _ (by exact hF2) ?_).mono ?_
  · rw [← hz]; exact World.cell?_alloc_at _ _ _ _ rfl
  rintro e w3 ⟨⟨s, rfl⟩, b3⟩
  go_wp2
  go_ret
  exact ⟨rfl, (hb2.alloc (by omega) _).trans (b3.mono (by simp; omega))⟩

set_option maxHeartbeats 1000000 in
set_option maxRecDepth 100000 in
theorem law_name (F : Interp) (b off cap : Nat) (ss : List ByteArray) (u I : Int) (hu0 : 0 ≤ u) (hu1 : u ≤ 18446744073709551615) (hl : ss.length ≤ 1024) (w : World) (hF : F.answers w.tape)
    (hc : ∀ j v, (ss.map Value.string)[j]? = some v → w.cell? ((⟨b, off, none⟩ : Addr).add j) = some v) (hI : u % ((ss.length : Int) + 3) = I) (hI0 : 0 ≤ I) (hI1 : I < (ss.length : Int) + 3) (s : ByteArray) (he : s.toList.isEmpty = false) (hs : ss[I.toNat]? = some s) :
    Calls Ybaf.prog 3 #[.slice (some ⟨b, off, none⟩) ss.length cap, .int .u64 u] w fun e w' => e = .returned (.bool true) ∧ Below w.heap.size w w' := by
  obtain ⟨W2, hrun, hrow, hb2, hz⟩ := copied ⟨b, off, none⟩ cap ss w hc
  have hmk := fun W => run_make_row' (P := Ybaf.prog) 22 9 (.string ⟨#[]⟩) 16 Ybaf.underlying22 info9 rfl .i64 .i64 ss.length (by omega) (by omega) W
  have hnil := fun W (a : Option Addr) (l c n' c' : Nat) => Lib.run_eql_slice_nil (P := Ybaf.prog) W 22 9 a l c n' c' Ybaf.underlying22
  have hF2 : F.answers W2.tape := by rw [hb2.tape]; exact hF
  have hcell : w.cell? ⟨b, off + I.toNat, none⟩ = some (.string s) := by
    have := hc I.toNat (.string s) (by rw [List.getElem?_map, hs]; rfl)
    rwa [Go.WideShapes.add_plain] at this
  have hblk : b < w.heap.size := by
    rcases Nat.lt_or_ge b w.heap.size with h' | h'
    · exact h'
    · simp [World.cell?, Array.getElem?_eq_none h'] at hcell
  have hlt : I < (ss.length : Int) := by
    have := (List.getElem?_eq_some_iff.1 hs).1
    omega
  have c2 : W2.cell? ⟨b, off + I.toNat, none⟩ = some (.string s) := (hb2.cell (p := ⟨b, off + I.toNat, none⟩) hblk).trans hcell
  have r2 : W2.cell? ⟨w.heap.size, I.toNat, none⟩ = some (.string s) := by
    rw [cell_heap hrow]
    simp [hs]
  have hz2 : w.heap.size < W2.heap.size := by omega
  have hb2' : b < W2.heap.size := by omega
  clear hc hs
  go_enter Ybaf.func3, Ybaf.ntmps3
  go_wp2_with fail
  refine (field_name (w.heap.size + 1) w.heap.size ss.length ss.length I hI0 hlt s he _ ?_ ?_).mono ?_
  · rw [← hz]; exact World.cell?_alloc_at _ _ _ _ rfl
  · exact (World.cell?_alloc_past _ _ _ hz2).trans r2
  rintro e w' ⟨rfl, rfl⟩
  go_wp2
  go_ret
  exact ⟨by simp, hb2.alloc (by omega) _⟩

set_option maxHeartbeats 1000000 in
set_option maxRecDepth 100000 in
theorem law_empty (F : Interp) (b off cap : Nat) (ss : List ByteArray) (u I : Int) (hu0 : 0 ≤ u) (hu1 : u ≤ 18446744073709551615) (hl : ss.length ≤ 1024) (w : World) (hF : F.answers w.tape)
    (hc : ∀ j v, (ss.map Value.string)[j]? = some v → w.cell? ((⟨b, off, none⟩ : Addr).add j) = some v) (hI : u % ((ss.length : Int) + 3) = I) (hI0 : 0 ≤ I) (hI1 : I < (ss.length : Int) + 3) (s : ByteArray) (he : s = ByteArray.empty) (hs : ss[I.toNat]? = some s) :
    Calls Ybaf.prog 3 #[.slice (some ⟨b, off, none⟩) ss.length cap, .int .u64 u] w fun e w' => e = .returned (.bool true) ∧ Below w.heap.size w w' := by
  obtain ⟨W2, hrun, hrow, hb2, hz⟩ := copied ⟨b, off, none⟩ cap ss w hc
  have hmk := fun W => run_make_row' (P := Ybaf.prog) 22 9 (.string ⟨#[]⟩) 16 Ybaf.underlying22 info9 rfl .i64 .i64 ss.length (by omega) (by omega) W
  have hnil := fun W (a : Option Addr) (l c n' c' : Nat) => Lib.run_eql_slice_nil (P := Ybaf.prog) W 22 9 a l c n' c' Ybaf.underlying22
  have hF2 : F.answers W2.tape := by rw [hb2.tape]; exact hF
  have hcell : w.cell? ⟨b, off + I.toNat, none⟩ = some (.string s) := by
    have := hc I.toNat (.string s) (by rw [List.getElem?_map, hs]; rfl)
    rwa [Go.WideShapes.add_plain] at this
  have hblk : b < w.heap.size := by
    rcases Nat.lt_or_ge b w.heap.size with h' | h'
    · exact h'
    · simp [World.cell?, Array.getElem?_eq_none h'] at hcell
  have hlt : I < (ss.length : Int) := by
    have := (List.getElem?_eq_some_iff.1 hs).1
    omega
  have c2 : W2.cell? ⟨b, off + I.toNat, none⟩ = some (.string s) := (hb2.cell (p := ⟨b, off + I.toNat, none⟩) hblk).trans hcell
  have r2 : W2.cell? ⟨w.heap.size, I.toNat, none⟩ = some (.string s) := by
    rw [cell_heap hrow]
    simp [hs]
  have hz2 : w.heap.size < W2.heap.size := by omega
  have hb2' : b < W2.heap.size := by omega
  clear hc hs
  subst he
  go_enter Ybaf.func3, Ybaf.ntmps3
  go_wp2_with fail
  refine (field_empty F (w.heap.size + 1) w.heap.size ss.length ss.length I hI0 (by omega) hlt _ (by exact hF2) ?_ ?_).mono ?_
  · rw [← hz]; exact World.cell?_alloc_at _ _ _ _ rfl
  · exact (World.cell?_alloc_past _ _ _ hz2).trans r2
  rintro e w3 ⟨⟨t, rfl⟩, b3⟩
  have c3 : w3.cell? ⟨b, off + I.toNat, none⟩ = some (.string ByteArray.empty) := (b3.cell (p := ⟨b, off + I.toNat, none⟩) (by simp; omega)).trans ((World.cell?_alloc_past _ _ _ hb2').trans c2)
  go_wp2
  go_ret
  exact ⟨rfl, (hb2.alloc (by omega) _).trans (b3.mono (by simp; omega))⟩

set_option maxHeartbeats 1000000 in
set_option maxRecDepth 100000 in
theorem law_nil (F : Interp) (u I : Int) (hu0 : 0 ≤ u) (hu1 : u ≤ 18446744073709551615) (w : World) (hF : F.answers w.tape) (hI : u % 3 = I) (hI0 : 0 ≤ I) (_hI1 : I < 3) :
    Calls Ybaf.prog 3 #[.slice none 0 0, .int .u64 u] w fun e w' => e = .returned (.bool true) ∧ Below w.heap.size w w' := by
  have hmk := fun W => run_make_row' (P := Ybaf.prog) 22 9 (.string ⟨#[]⟩) 16 Ybaf.underlying22 info9 rfl .i64 .i64 0 (by omega) (by omega) W
  have hnil := fun W (a : Option Addr) (l c n' c' : Nat) => Lib.run_eql_slice_nil (P := Ybaf.prog) W 22 9 a l c n' c' Ybaf.underlying22
  have hcp := fun W (d a : Option Addr) (c c' : Nat) => run_copy_none (P := Ybaf.prog) W 22 22 3 9 d a 0 c 0 c' Ybaf.underlying22 size9 rfl
  simp only [Int.natCast_zero] at hmk
  go_enter Ybaf.func3, Ybaf.ntmps3
  go_wp2_with fail
  refine (field_fmt F (w.heap.size + 1) 0 0 none I hI0 (by omega) (by omega) _ (by exact hF) ?_).mono ?_
  · simp
  rintro e w3 ⟨⟨s, rfl⟩, b3⟩
  go_wp2
  go_ret
  exact ⟨rfl, (((Below.refl _ _).alloc (Nat.le_refl _) _).alloc (by simp) _).trans (b3.mono (by simp; omega))⟩

set_option maxHeartbeats 1000000 in
set_option maxRecDepth 100000 in
theorem law_long (a : Addr) (len cap : Nat) (u : Int) (hl : 1024 < len) (hm : len ≤ maxLen) (w : World) :
    Calls Ybaf.prog 3 #[.slice (some a) len cap, .int .u64 u] w fun e w' => e = .returned (.bool true) ∧ Below w.heap.size w w' := by
  unfold maxLen at hm
  go_enter Ybaf.func3, Ybaf.ntmps3
  go_wp2_with fail
  go_ret
  exact ⟨rfl, Below.refl _ _⟩
end Go.Proofs.YbulkafswFmt
