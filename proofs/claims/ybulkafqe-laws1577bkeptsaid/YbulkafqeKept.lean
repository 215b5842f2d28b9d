/-
  THE WALK of LawS1577BKept (5): a domain, none, or a string beyond the law's own bounds.
-/
import Derived.Test.YbulkafqeWith
namespace Go.Proofs.Ybulkafqe
open Go.RowKit

set_option maxHeartbeats 400000 in
theorem buildB_none (p s : ByteArray) (hp : p.size ≤ 255) (hs : s.size ≤ 4096) (w : World) :
    Calls Yba.prog 8 #[.string ByteArray.empty, .string p, .string s] w fun e w' => e = .returned (.agg #[.string (p ++ s), .int .i64 p.size, .int .u8 p.size, .int .u8 0]) ∧ Below w.heap.size w w' := by
  go_enter Yba.func8, Yba.ntmps8
  go_wp2_with (first | (go_at_call 16; refine (newRef_any _ _ _ 0 (by omega) (by omega) _).mono ?_; rintro e w' ⟨rfl, rfl⟩))
  exact bodyPost_ret (v := .agg #[.string (p ++ s), .int .i64 p.size, .int .u8 p.size, .int .u8 0]) (by simp [results, Yba.results8, go_sem]) rfl ⟨rfl, ((Below.refl _ _).alloc (Nat.le_refl _) _).alloc (by simp) _⟩
set_option maxHeartbeats 400000 in
theorem buildB_some (d p s : ByteArray) (hd0 : d.toList.isEmpty = false) (hd : d.size ≤ 4096) (hp : p.size ≤ 255) (hs : s.size ≤ 4096) (w : World) :
    Calls Yba.prog 8 #[.string d, .string p, .string s] w fun e w' => e = .returned (.agg #[.string (d ++ ⟨#[47]⟩ ++ p ++ s), .int .i64 ((d.size + 1 + p.size : Nat) : Int), .int .u8 p.size, .int .u8 0]) ∧ Below w.heap.size w w' := by
  go_enter Yba.func8, Yba.ntmps8
  go_wp2_with (first | (go_at_call 16; refine (newRef_any _ _ _ 0 (by omega) (by omega) _).mono ?_; rintro e w' ⟨rfl, rfl⟩))
  exact bodyPost_ret (v := .agg #[.string (d ++ ⟨#[47]⟩ ++ p ++ s), .int .i64 ((d.size + 1 + p.size : Nat) : Int), .int .u8 p.size, .int .u8 0]) (by simp [results, Yba.results8, go_sem]) rfl ⟨rfl, ((Below.refl _ _).alloc (Nat.le_refl _) _).alloc (by simp) _⟩

set_option maxHeartbeats 400000 in
theorem domain_big (t : ByteArray) (n p q : Int) (hp0 : 0 ≤ p) (hp : p ≤ 255) (hn : n ≤ t.size) (hn2 : n ≤ 10000) (h : p + 1 < n) (w : World) :
    Calls Yba.prog 9 #[.agg #[.string t, .int .i64 n, .int .u8 p, .int .u8 q]] w fun e w' => e = .returned (.string (t.extract 0 ((n - p).toNat - 1))) ∧ w' = w.alloc (.cells #[.string t, .int .i64 n, .int .u8 p, .int .u8 q] 23) := by
  go_enter Yba.func9, Yba.ntmps9
  go_wp2
  go_ret
  exact ⟨rfl, rfl⟩
/-- Domain of a text that begins with 'd/p', the name's length and the path's as they must be -/
theorem domain_q (d p s : ByteArray) (q : Int) (hd0 : 0 < d.size) (hd : d.size ≤ 4096) (hp : p.size ≤ 255) (w : World) :
    Calls Yba.prog 9 #[.agg #[.string (d ++ ⟨#[47]⟩ ++ p ++ s), .int .i64 (↑d.size + 1 + ↑p.size), .int .u8 ↑p.size, .int .u8 q]] w fun e w' => e = .returned (.string d) ∧ w' = w.alloc (.cells #[.string (d ++ ⟨#[47]⟩ ++ p ++ s), .int .i64 (↑d.size + 1 + ↑p.size), .int .u8 ↑p.size, .int .u8 q] 23) := by
  have hz := size_ref d p s
  have c := domain_big (d ++ ⟨#[47]⟩ ++ p ++ s) (↑d.size + 1 + ↑p.size) ↑p.size q (by omega) (by omega) (by omega) (by omega) (by omega) w
  rw [head_ref d p s _ (by omega)] at c
  exact c
theorem domain_q0 (d p : ByteArray) (q : Int) (hd0 : 0 < d.size) (hd : d.size ≤ 4096) (hp : p.size ≤ 255) (w : World) :
    Calls Yba.prog 9 #[.agg #[.string (d ++ ⟨#[47]⟩ ++ p), .int .i64 (↑d.size + 1 + ↑p.size), .int .u8 ↑p.size, .int .u8 q]] w fun e w' => e = .returned (.string d) ∧ w' = w.alloc (.cells #[.string (d ++ ⟨#[47]⟩ ++ p), .int .i64 (↑d.size + 1 + ↑p.size), .int .u8 ↑p.size, .int .u8 q] 23) := by
  have c := domain_q d p ByteArray.empty q hd0 hd hp w
  rw [ByteArray.append_empty] at c
  exact c
theorem name_whole (d p : ByteArray) (n : Nat) (h : n = d.size + 1 + p.size) : (d ++ ⟨#[47]⟩ ++ p).extract 0 n = d ++ ⟨#[47]⟩ ++ p := by
  have := head_mid d p ByteArray.empty n h
  rw [ByteArray.append_empty] at this
  exact this
/-- old cells behind a call -/
theorem bcell {W w1 : World} {B : Nat} (hb : Below B W w1) (k o : Nat) (h : k < B) {v : Value} (hv : W.cell? ⟨k, o, none⟩ = some v) : w1.cell? ⟨k, o, none⟩ = some v :=
  (hb.cell (p := ⟨k, o, none⟩) h).trans hv

set_option maxHeartbeats 2000000 in
set_option maxRecDepth 100000 in
theorem kept_some (d p tag dig : ByteArray) (hd0 : d.toList.isEmpty = false) (hd1 : 0 < d.size) (hd : d.size ≤ 4096) (hp : p.size ≤ 255) (ht : tag.size ≤ 255) (hg : dig.size ≤ 4096) (w : World) :
    Calls Yba.prog 5 #[.string d, .string p, .string tag, .string dig] w fun e w' => e = .returned (.bool true) ∧ Below w.heap.size w w' := by
  go_enter Yba.func5, Yba.ntmps5
  go_wp2_with fail
  refine (buildB_some d p ByteArray.empty hd0 hd hp (by decide) _).mono ?_
  rintro e w1 ⟨rfl, b1⟩
  rw [ByteArray.append_empty]
  go_wp2_with fail
  have hsz : (d ++ ⟨#[47]⟩ ++ p : ByteArray).size = d.size + 1 + p.size := by simp only [ByteArray.size_append]; rfl
  refine (with_any _ tag dig ht hg _ _ ?_ ?_ ?_ ?_ ?_ _).mono ?_
  · omega
  · omega
  · omega
  · omega
  · omega
  rintro e w2 ⟨⟨rest, q, hr, rfl⟩, b2⟩
  rw [name_whole d p _ (by omega)]
  have c0 := bcell b2 w1.heap.size 0 (by simp) (by simp; rfl)
  have c1 := bcell b2 w1.heap.size 1 (by simp) (by simp; rfl)
  have c2 := bcell b2 w1.heap.size 2 (by simp) (by simp; rfl)
  have c3 := bcell b2 w1.heap.size 3 (by simp) (by simp; rfl)
  have hz1 : w1.heap.size < w2.heap.size := by have := b2.size; simp at this; omega
  have hz0 : w.heap.size ≤ w1.heap.size := b1.size
  clear hsz
  go_wp2_with fail
  refine (domain_q d p rest q hd1 hd hp _).mono ?_
  rintro e w' ⟨rfl, rfl⟩
  go_wp2_with fail
  refine (domain_q0 d p 0 hd1 hd hp _).mono ?_
  rintro e w' ⟨rfl, rfl⟩
  go_wp2
  go_ret
  refine ⟨by simp, ?_⟩
  refine Below.alloc (Below.alloc (Below.alloc ?_ ?_ _) ?_ _) ?_ _
  · exact (b1.alloc hz0 _).trans (b2.mono (by simp; omega))
  · omega
  · simp; omega
  · simp; omega

set_option maxHeartbeats 2000000 in
set_option maxRecDepth 100000 in
theorem kept_none (p tag dig : ByteArray) (hp : p.size ≤ 255) (ht : tag.size ≤ 255) (hg : dig.size ≤ 4096) (w : World) :
    Calls Yba.prog 5 #[.string ByteArray.empty, .string p, .string tag, .string dig] w fun e w' => e = .returned (.bool true) ∧ Below w.heap.size w w' := by
  go_enter Yba.func5, Yba.ntmps5
  go_wp2_with fail
  refine (buildB_none p ByteArray.empty hp (by decide) _).mono ?_
  rintro e w1 ⟨rfl, b1⟩
  rw [ByteArray.append_empty]
  go_wp2_with fail
  refine (with_any _ tag dig ht hg _ _ ?_ ?_ ?_ ?_ ?_ _).mono ?_
  · omega
  · omega
  · omega
  · omega
  · omega
  rintro e w2 ⟨⟨rest, q, hr, rfl⟩, b2⟩
  generalize p.extract 0 (p.size : Int).toNat ++ rest = t2
  have c0 := bcell b2 w1.heap.size 0 (by simp) (by simp; rfl)
  have c1 := bcell b2 w1.heap.size 1 (by simp) (by simp; rfl)
  have c2 := bcell b2 w1.heap.size 2 (by simp) (by simp; rfl)
  have c3 := bcell b2 w1.heap.size 3 (by simp) (by simp; rfl)
  have hz1 : w1.heap.size < w2.heap.size := by have := b2.size; simp at this; omega
  have hz0 : w.heap.size ≤ w1.heap.size := b1.size
  go_wp2_with fail
  refine (domain_none _ _ _ q ?_ ?_ ?_ ?_ _).mono ?_
  · omega
  · omega
  · omega
  · omega
  rintro e w' ⟨rfl, rfl⟩
  go_wp2_with fail
  refine (domain_none _ _ _ 0 ?_ ?_ ?_ ?_ _).mono ?_
  · omega
  · omega
  · omega
  · omega
  rintro e w' ⟨rfl, rfl⟩
  go_wp2
  go_ret
  refine ⟨by simp, ?_⟩
  refine Below.alloc (Below.alloc (Below.alloc ?_ ?_ _) ?_ _) ?_ _
  · exact (b1.alloc hz0 _).trans (b2.mono (by simp; omega))
  · omega
  · simp; omega
  · simp; omega

set_option maxHeartbeats 400000 in
theorem kept_long (d p tag dig : ByteArray) (wd : d.size ≤ maxLen) (wp : p.size ≤ maxLen) (wt : tag.size ≤ maxLen) (wg : dig.size ≤ maxLen) (h : 255 < p.size ∨ 255 < tag.size ∨ 4096 < d.size ∨ 4096 < dig.size) (w : World) :
    Calls Yba.prog 5 #[.string d, .string p, .string tag, .string dig] w fun e w' => e = .returned (.bool true) ∧ Below w.heap.size w w' := by
  unfold maxLen at wd wp wt wg
  by_cases h1 : 255 < p.size
  · go_enter Yba.func5, Yba.ntmps5
    go_wp2_with fail
    go_ret
    exact ⟨rfl, Below.refl _ _⟩
  · by_cases h2 : 255 < tag.size
    · go_enter Yba.func5, Yba.ntmps5
      go_wp2_with fail
      go_ret
      exact ⟨rfl, Below.refl _ _⟩
    · by_cases h3 : 4096 < d.size
      · go_enter Yba.func5, Yba.ntmps5
        go_wp2_with fail
        go_ret
        exact ⟨rfl, Below.refl _ _⟩
      · have h4 : 4096 < dig.size := by omega
        clear h
        go_enter Yba.func5, Yba.ntmps5
        go_wp2_with fail
        go_ret
        exact ⟨rfl, Below.refl _ _⟩
end Go.Proofs.Ybulkafqe
