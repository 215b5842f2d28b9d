/-
  CONTRACTS of utf8.appendRuneNonASCII (26), utf8.AppendRune (24) onto a row of bytes that the call owns: turned to this program after the shelf's own texts (Derived/Shelf/Strings/BuilderRune.lean).
-/
import Derived.Test.YbulkafpcRows
import Derived.WalkKit
import Derived.ProofKit
import Derived.WalkSpells
import Derived.Lib.Strings
import Derived.Lib.Slices
import Derived.Lib.Walk
import Derived.Lib.Builder
import Derived.Lib.AppendStr
import Derived.Lib.UnsafeStr
import Derived.Lib.RuneBytes
import Derived.Laws.Externs
import Derived.Laws.IdiomCopy
import Derived.Laws.BitsLemmas
namespace Go.Proofs.Ybulkafpc
open Go.RowKit

theorem infoByte : (Yba.prog.info? 5).map (fun i => (i.zero, i.size, i.bytes)) = some (some (.int .u8 0), 1, 1) := by kernel_rfl

set_option maxHeartbeats 4000000 in
set_option maxRecDepth 100000 in
theorem rune_two (B : Nat) (v : Value) (n : Nat) (xs : List Value) (r : Int) (h0 : 128 ≤ r) (h1 : r ≤ 2047) (w : World) (hown : w.ownsRow B 5 1 v n xs) (hlen : n + 4 ≤ 140737488355328) (hBw : B ≤ w.heap.size) :
    Calls Yba.prog 26 #[v, .int .i32 r] w fun e w' => ∃ v', e = .returned v' ∧ w'.ownsRow B 5 1 v' (n + 2) (xs ++ [.int .u8 (192 + r / 64), .int .u8 (128 + r % 64)]) ∧ ∃ o, (w.alloc o).grownBy w' v.ownBlock := by
  obtain ⟨i0, hi, hz0, hz1, hz2⟩ := info_parts infoByte
  go_enter Yba.func26, Yba.ntmps26
  go_wp2_with (at_builtin; refine wpList_append_own _ rfl _ _ 24 rfl B 5 i0 (.int .u8 0) 1 1 Yba.underlying24 hi hz0 hz1 hz2 rfl (by decide) _ _ _ rfl (hown.alloc _) ⟨w.heap.size, 0, none⟩ 2 2 [.int .u8 (192 + r / 64), .int .u8 (128 + r % 64)] rfl rfl ?c1 ?c2 ?c3 ?c4 ?c5 ?_)
  all_goals first
    | (intro v' w2 hown' hgrow _; go_wp2; go_ret; exact ⟨_, rfl, hown', _, hgrow⟩)
    | (unfold maxLen; omega)
    | omega
    | (simp; omega)
    | exact ⟨rfl, rfl, rfl⟩
    | (intro u hu; simp at hu; rcases hu with rfl | rfl <;> rfl)
    | (intro j u hj
       match j, hj with
       | 0, hj => simp at hj; subst hj; simp [Addr.add]
       | 1, hj => simp at hj; subst hj; simp [Addr.add]
       | (j + 2), hj => simp at hj)

set_option maxHeartbeats 4000000 in
set_option maxRecDepth 100000 in
theorem rune_three_lo (B : Nat) (v : Value) (n : Nat) (xs : List Value) (r : Int) (h0 : 2048 ≤ r) (h1 : r < 55296) (w : World) (hown : w.ownsRow B 5 1 v n xs) (hlen : n + 4 ≤ 140737488355328) (hBw : B ≤ w.heap.size) :
    Calls Yba.prog 26 #[v, .int .i32 r] w fun e w' => ∃ v', e = .returned v' ∧ w'.ownsRow B 5 1 v' (n + 3) (xs ++ [.int .u8 (224 + r / 4096), .int .u8 (128 + r / 64 % 64), .int .u8 (128 + r % 64)]) ∧ ∃ o, (w.alloc o).grownBy w' v.ownBlock := by
  obtain ⟨i0, hi, hz0, hz1, hz2⟩ := info_parts infoByte
  go_enter Yba.func26, Yba.ntmps26
  go_wp2_with (at_builtin; refine wpList_append_own _ rfl _ _ 24 rfl B 5 i0 (.int .u8 0) 1 1 Yba.underlying24 hi hz0 hz1 hz2 rfl (by decide) _ _ _ rfl (hown.alloc _) ⟨w.heap.size, 0, none⟩ 3 3 [.int .u8 (224 + r / 4096), .int .u8 (128 + r / 64 % 64), .int .u8 (128 + r % 64)] rfl rfl ?c1 ?c2 ?c3 ?c4 ?c5 ?_)
  all_goals first
    | (intro v' w2 hown' hgrow _; go_wp2; go_ret; exact ⟨_, rfl, hown', _, hgrow⟩)
    | (unfold maxLen; omega)
    | omega
    | (simp; omega)
    | exact ⟨rfl, rfl, rfl⟩
    | (intro u hu; simp at hu; rcases hu with rfl | rfl | rfl <;> rfl)
    | (intro j u hj
       match j, hj with
       | 0, hj => simp at hj; subst hj; simp [Addr.add]
       | 1, hj => simp at hj; subst hj; simp [Addr.add]
       | 2, hj => simp at hj; subst hj; simp [Addr.add]
       | (j + 3), hj => simp at hj)

set_option maxHeartbeats 4000000 in
set_option maxRecDepth 100000 in
theorem rune_three_hi (B : Nat) (v : Value) (n : Nat) (xs : List Value) (r : Int) (h0 : 57343 < r) (h1 : r ≤ 65535) (w : World) (hown : w.ownsRow B 5 1 v n xs) (hlen : n + 4 ≤ 140737488355328) (hBw : B ≤ w.heap.size) :
    Calls Yba.prog 26 #[v, .int .i32 r] w fun e w' => ∃ v', e = .returned v' ∧ w'.ownsRow B 5 1 v' (n + 3) (xs ++ [.int .u8 (224 + r / 4096), .int .u8 (128 + r / 64 % 64), .int .u8 (128 + r % 64)]) ∧ ∃ o, (w.alloc o).grownBy w' v.ownBlock := by
  obtain ⟨i0, hi, hz0, hz1, hz2⟩ := info_parts infoByte
  go_enter Yba.func26, Yba.ntmps26
  go_wp2_with (at_builtin; refine wpList_append_own _ rfl _ _ 24 rfl B 5 i0 (.int .u8 0) 1 1 Yba.underlying24 hi hz0 hz1 hz2 rfl (by decide) _ _ _ rfl (hown.alloc _) ⟨w.heap.size, 0, none⟩ 3 3 [.int .u8 (224 + r / 4096), .int .u8 (128 + r / 64 % 64), .int .u8 (128 + r % 64)] rfl rfl ?c1 ?c2 ?c3 ?c4 ?c5 ?_)
  all_goals first
    | (intro v' w2 hown' hgrow _; go_wp2; go_ret; exact ⟨_, rfl, hown', _, hgrow⟩)
    | (unfold maxLen; omega)
    | omega
    | (simp; omega)
    | exact ⟨rfl, rfl, rfl⟩
    | (intro u hu; simp at hu; rcases hu with rfl | rfl | rfl <;> rfl)
    | (intro j u hj
       match j, hj with
       | 0, hj => simp at hj; subst hj; simp [Addr.add]
       | 1, hj => simp at hj; subst hj; simp [Addr.add]
       | 2, hj => simp at hj; subst hj; simp [Addr.add]
       | (j + 3), hj => simp at hj)

set_option maxHeartbeats 4000000 in
set_option maxRecDepth 100000 in
theorem rune_four (B : Nat) (v : Value) (n : Nat) (xs : List Value) (r : Int) (h0 : 65536 ≤ r) (h1 : r ≤ 1114111) (w : World) (hown : w.ownsRow B 5 1 v n xs) (hlen : n + 4 ≤ 140737488355328) (hBw : B ≤ w.heap.size) :
    Calls Yba.prog 26 #[v, .int .i32 r] w fun e w' => ∃ v', e = .returned v' ∧ w'.ownsRow B 5 1 v' (n + 4) (xs ++ [.int .u8 (240 + r / 262144), .int .u8 (128 + r / 4096 % 64), .int .u8 (128 + r / 64 % 64), .int .u8 (128 + r % 64)]) ∧ ∃ o, (w.alloc o).grownBy w' v.ownBlock := by
  obtain ⟨i0, hi, hz0, hz1, hz2⟩ := info_parts infoByte
  go_enter Yba.func26, Yba.ntmps26
  go_wp2_with (at_builtin; refine wpList_append_own _ rfl _ _ 24 rfl B 5 i0 (.int .u8 0) 1 1 Yba.underlying24 hi hz0 hz1 hz2 rfl (by decide) _ _ _ rfl (hown.alloc _) ⟨w.heap.size, 0, none⟩ 4 4 [.int .u8 (240 + r / 262144), .int .u8 (128 + r / 4096 % 64), .int .u8 (128 + r / 64 % 64), .int .u8 (128 + r % 64)] rfl rfl ?c1 ?c2 ?c3 ?c4 ?c5 ?_)
  all_goals first
    | (intro v' w2 hown' hgrow _; go_wp2; go_ret; exact ⟨_, rfl, hown', _, hgrow⟩)
    | (unfold maxLen; omega)
    | omega
    | (simp; omega)
    | exact ⟨rfl, rfl, rfl⟩
    | (intro u hu; simp at hu; rcases hu with rfl | rfl | rfl | rfl <;> rfl)
    | (intro j u hj
       match j, hj with
       | 0, hj => simp at hj; subst hj; simp [Addr.add]
       | 1, hj => simp at hj; subst hj; simp [Addr.add]
       | 2, hj => simp at hj; subst hj; simp [Addr.add]
       | 3, hj => simp at hj; subst hj; simp [Addr.add]
       | (j + 4), hj => simp at hj)

set_option maxHeartbeats 4000000 in
set_option maxRecDepth 100000 in
theorem rune_bad_neg (B : Nat) (v : Value) (n : Nat) (xs : List Value) (r : Int) (h0 : -2147483648 ≤ r) (h1 : r < 0) (w : World) (hown : w.ownsRow B 5 1 v n xs) (hlen : n + 4 ≤ 140737488355328) (hBw : B ≤ w.heap.size) :
    Calls Yba.prog 26 #[v, .int .i32 r] w fun e w' => ∃ v', e = .returned v' ∧ w'.ownsRow B 5 1 v' (n + 3) (xs ++ [.int .u8 (239), .int .u8 (191), .int .u8 (189)]) ∧ ∃ o, (w.alloc o).grownBy w' v.ownBlock := by
  obtain ⟨i0, hi, hz0, hz1, hz2⟩ := info_parts infoByte
  go_enter Yba.func26, Yba.ntmps26
  go_wp2_with (at_builtin; refine wpList_append_own _ rfl _ _ 24 rfl B 5 i0 (.int .u8 0) 1 1 Yba.underlying24 hi hz0 hz1 hz2 rfl (by decide) _ _ _ rfl (hown.alloc _) ⟨w.heap.size, 0, none⟩ 3 3 [.int .u8 (239), .int .u8 (191), .int .u8 (189)] rfl rfl ?c1 ?c2 ?c3 ?c4 ?c5 ?_)
  all_goals first
    | (intro v' w2 hown' hgrow _; go_wp2; go_ret; exact ⟨_, rfl, hown', _, hgrow⟩)
    | (unfold maxLen; omega)
    | omega
    | (simp; omega)
    | exact ⟨rfl, rfl, rfl⟩
    | (intro u hu; simp at hu; rcases hu with rfl | rfl | rfl <;> rfl)
    | (intro j u hj
       match j, hj with
       | 0, hj => simp at hj; subst hj; simp [Addr.add]
       | 1, hj => simp at hj; subst hj; simp [Addr.add]
       | 2, hj => simp at hj; subst hj; simp [Addr.add]
       | (j + 3), hj => simp at hj)

set_option maxHeartbeats 4000000 in
set_option maxRecDepth 100000 in
theorem rune_bad_sur (B : Nat) (v : Value) (n : Nat) (xs : List Value) (r : Int) (h0 : 55296 ≤ r) (h1 : r ≤ 57343) (w : World) (hown : w.ownsRow B 5 1 v n xs) (hlen : n + 4 ≤ 140737488355328) (hBw : B ≤ w.heap.size) :
    Calls Yba.prog 26 #[v, .int .i32 r] w fun e w' => ∃ v', e = .returned v' ∧ w'.ownsRow B 5 1 v' (n + 3) (xs ++ [.int .u8 (239), .int .u8 (191), .int .u8 (189)]) ∧ ∃ o, (w.alloc o).grownBy w' v.ownBlock := by
  obtain ⟨i0, hi, hz0, hz1, hz2⟩ := info_parts infoByte
  go_enter Yba.func26, Yba.ntmps26
  go_wp2_with (at_builtin; refine wpList_append_own _ rfl _ _ 24 rfl B 5 i0 (.int .u8 0) 1 1 Yba.underlying24 hi hz0 hz1 hz2 rfl (by decide) _ _ _ rfl (hown.alloc _) ⟨w.heap.size, 0, none⟩ 3 3 [.int .u8 (239), .int .u8 (191), .int .u8 (189)] rfl rfl ?c1 ?c2 ?c3 ?c4 ?c5 ?_)
  all_goals first
    | (intro v' w2 hown' hgrow _; go_wp2; go_ret; exact ⟨_, rfl, hown', _, hgrow⟩)
    | (unfold maxLen; omega)
    | omega
    | (simp; omega)
    | exact ⟨rfl, rfl, rfl⟩
    | (intro u hu; simp at hu; rcases hu with rfl | rfl | rfl <;> rfl)
    | (intro j u hj
       match j, hj with
       | 0, hj => simp at hj; subst hj; simp [Addr.add]
       | 1, hj => simp at hj; subst hj; simp [Addr.add]
       | 2, hj => simp at hj; subst hj; simp [Addr.add]
       | (j + 3), hj => simp at hj)

set_option maxHeartbeats 4000000 in
set_option maxRecDepth 100000 in
theorem rune_bad_big (B : Nat) (v : Value) (n : Nat) (xs : List Value) (r : Int) (h0 : 1114111 < r) (h1 : r ≤ 2147483647) (w : World) (hown : w.ownsRow B 5 1 v n xs) (hlen : n + 4 ≤ 140737488355328) (hBw : B ≤ w.heap.size) :
    Calls Yba.prog 26 #[v, .int .i32 r] w fun e w' => ∃ v', e = .returned v' ∧ w'.ownsRow B 5 1 v' (n + 3) (xs ++ [.int .u8 (239), .int .u8 (191), .int .u8 (189)]) ∧ ∃ o, (w.alloc o).grownBy w' v.ownBlock := by
  obtain ⟨i0, hi, hz0, hz1, hz2⟩ := info_parts infoByte
  go_enter Yba.func26, Yba.ntmps26
  go_wp2_with (at_builtin; refine wpList_append_own _ rfl _ _ 24 rfl B 5 i0 (.int .u8 0) 1 1 Yba.underlying24 hi hz0 hz1 hz2 rfl (by decide) _ _ _ rfl (hown.alloc _) ⟨w.heap.size, 0, none⟩ 3 3 [.int .u8 (239), .int .u8 (191), .int .u8 (189)] rfl rfl ?c1 ?c2 ?c3 ?c4 ?c5 ?_)
  all_goals first
    | (intro v' w2 hown' hgrow _; go_wp2; go_ret; exact ⟨_, rfl, hown', _, hgrow⟩)
    | (unfold maxLen; omega)
    | omega
    | (simp; omega)
    | exact ⟨rfl, rfl, rfl⟩
    | (intro u hu; simp at hu; rcases hu with rfl | rfl | rfl <;> rfl)
    | (intro j u hj
       match j, hj with
       | 0, hj => simp at hj; subst hj; simp [Addr.add]
       | 1, hj => simp at hj; subst hj; simp [Addr.add]
       | 2, hj => simp at hj; subst hj; simp [Addr.add]
       | (j + 3), hj => simp at hj)

set_option maxHeartbeats 4000000 in
set_option maxRecDepth 100000 in
theorem rune_ascii (B : Nat) (v : Value) (n : Nat) (xs : List Value) (r : Int) (h0 : 0 ≤ r) (h1 : r ≤ 127) (w : World) (hown : w.ownsRow B 5 1 v n xs) (hlen : n + 4 ≤ 140737488355328) (hBw : B ≤ w.heap.size) :
    Calls Yba.prog 24 #[v, .int .i32 r] w fun e w' => ∃ v', e = .returned v' ∧ w'.ownsRow B 5 1 v' (n + 1) (xs ++ [.int .u8 (r)]) ∧ ∃ o, (w.alloc o).grownBy w' v.ownBlock := by
  obtain ⟨i0, hi, hz0, hz1, hz2⟩ := info_parts infoByte
  go_enter Yba.func24, Yba.ntmps24
  go_wp2_with (at_builtin; refine wpList_append_own _ rfl _ _ 24 rfl B 5 i0 (.int .u8 0) 1 1 Yba.underlying24 hi hz0 hz1 hz2 rfl (by decide) _ _ _ rfl (hown.alloc _) ⟨w.heap.size, 0, none⟩ 1 1 [.int .u8 (r)] rfl rfl ?c1 ?c2 ?c3 ?c4 ?c5 ?_)
  all_goals first
    | (intro v' w2 hown' hgrow _; go_wp2; go_ret; exact ⟨_, rfl, hown', _, hgrow⟩)
    | (unfold maxLen; omega)
    | omega
    | (simp; omega)
    | exact ⟨rfl, rfl, rfl⟩
    | (intro u hu; simp at hu; subst hu; rfl)
    | (intro j u hj
       match j, hj with
       | 0, hj => simp at hj; subst hj; simp [Addr.add]
       | (j + 1), hj => simp at hj)

/-- appendRuneNonASCII at every int32 that is no ASCII rune: 'Lib.runeCells r' goes in behind what the row holds -/
theorem rune_other (B : Nat) (v : Value) (n : Nat) (xs : List Value) (r : Int) (hr0 : -2147483648 ≤ r) (hr1 : r ≤ 2147483647) (hna : r < 0 ∨ 128 ≤ r) (w : World) (hown : w.ownsRow B 5 1 v n xs) (hlen : n + 4 ≤ 140737488355328) (hBw : B ≤ w.heap.size) :
    Calls Yba.prog 26 #[v, .int .i32 r] w fun e w' => ∃ v', e = .returned v' ∧ w'.ownsRow B 5 1 v' (n + (Lib.runeCells r).length) (xs ++ Lib.runeCells r) ∧ ∃ o, (w.alloc o).grownBy w' v.ownBlock := by
  by_cases c0 : r < 0
  · rw [show Lib.runeCells r = [.int .u8 239, .int .u8 191, .int .u8 189] by simp [Lib.runeCells, Lib.encodeRuneZ_bad (Or.inl c0)]]
    exact rune_bad_neg B v n xs r hr0 c0 w hown hlen hBw
  by_cases c1 : r ≤ 2047
  · rw [show Lib.runeCells r = [.int .u8 (192 + r / 64), .int .u8 (128 + r % 64)] by simp [Lib.runeCells, Lib.encodeRuneZ_two (by omega) c1]]
    exact rune_two B v n xs r (by omega) c1 w hown hlen hBw
  by_cases c2 : r < 55296
  · rw [show Lib.runeCells r = [.int .u8 (224 + r / 4096), .int .u8 (128 + r / 64 % 64), .int .u8 (128 + r % 64)] by simp [Lib.runeCells, Lib.encodeRuneZ_three (Or.inl ⟨by omega, c2⟩)]]
    exact rune_three_lo B v n xs r (by omega) c2 w hown hlen hBw
  by_cases c3 : r ≤ 57343
  · rw [show Lib.runeCells r = [.int .u8 239, .int .u8 191, .int .u8 189] by simp [Lib.runeCells, Lib.encodeRuneZ_bad (Or.inr (Or.inl ⟨by omega, c3⟩))]]
    exact rune_bad_sur B v n xs r (by omega) c3 w hown hlen hBw
  by_cases c4 : r ≤ 65535
  · rw [show Lib.runeCells r = [.int .u8 (224 + r / 4096), .int .u8 (128 + r / 64 % 64), .int .u8 (128 + r % 64)] by simp [Lib.runeCells, Lib.encodeRuneZ_three (Or.inr ⟨by omega, c4⟩)]]
    exact rune_three_hi B v n xs r (by omega) c4 w hown hlen hBw
  by_cases c5 : r ≤ 1114111
  · rw [show Lib.runeCells r = [.int .u8 (240 + r / 262144), .int .u8 (128 + r / 4096 % 64), .int .u8 (128 + r / 64 % 64), .int .u8 (128 + r % 64)] by simp [Lib.runeCells, Lib.encodeRuneZ_four (by omega) c5]]
    exact rune_four B v n xs r (by omega) c5 w hown hlen hBw
  · rw [show Lib.runeCells r = [.int .u8 239, .int .u8 191, .int .u8 189] by simp [Lib.runeCells, Lib.encodeRuneZ_bad (r := r) (Or.inr (Or.inr (by omega)))]]
    exact rune_bad_big B v n xs r (by omega) hr1 w hown hlen hBw

set_option maxHeartbeats 4000000 in
set_option maxRecDepth 100000 in
theorem append_other (B : Nat) (v : Value) (n : Nat) (xs : List Value) (r : Int) (hr0 : -2147483648 ≤ r) (hr1 : r ≤ 2147483647) (hna : r < 0 ∨ 128 ≤ r) (w : World) (hown : w.ownsRow B 5 1 v n xs) (hlen : n + 4 ≤ 140737488355328) (hBw : B ≤ w.heap.size) :
    Calls Yba.prog 24 #[v, .int .i32 r] w fun e w' => ∃ v', e = .returned v' ∧ w'.ownsRow B 5 1 v' (n + (Lib.runeCells r).length) (xs ++ Lib.runeCells r) ∧ ∃ o, (w.alloc o).grownBy w' v.ownBlock := by
  rcases hna with hna | hna
  all_goals
    go_enter Yba.func24, Yba.ntmps24
    go_wp2_with (go_at_call 26; refine (rune_other B v n xs r hr0 hr1 (by omega) _ hown hlen hBw).mono ?_)
    rintro e w1 ⟨v', rfl, h1, o, h2⟩
    go_wp2
    go_ret
    exact ⟨_, rfl, h1, o, h2⟩

/-- utf8.AppendRune at every int32, onto a row of bytes that the call owns -/
theorem appendRune_own (B : Nat) (v : Value) (n : Nat) (xs : List Value) (r : Int) (hr0 : -2147483648 ≤ r) (hr1 : r ≤ 2147483647) (w : World) (hown : w.ownsRow B 5 1 v n xs) (hlen : n + 4 ≤ 140737488355328) (hBw : B ≤ w.heap.size) :
    Calls Yba.prog 24 #[v, .int .i32 r] w fun e w' => ∃ v', e = .returned v' ∧ w'.ownsRow B 5 1 v' (n + (Lib.runeCells r).length) (xs ++ Lib.runeCells r) ∧ ∃ o, (w.alloc o).grownBy w' v.ownBlock := by
  by_cases c : 0 ≤ r ∧ r ≤ 127
  · rw [show Lib.runeCells r = [.int .u8 r] by simp [Lib.runeCells, Lib.encodeRuneZ_one c.1 c.2]]
    exact rune_ascii B v n xs r c.1 c.2 w hown hlen hBw
  · exact append_other B v n xs r hr0 hr1 (by omega) w hown hlen hBw

end Go.Proofs.Ybulkafpc
