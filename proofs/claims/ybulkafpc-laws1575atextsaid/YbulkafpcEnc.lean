/-
  CONTRACT of zzs1575aenc (10) at every int32.
-/
import Derived.Test.YbulkafpcBuilder
import Derived.Laws.BytesArg

namespace Go.Proofs.Ybulkafpc
open Go.RowKit

theorem tail6 (x : Int) (h0 : 0 ≤ x) (h1 : x < 2147483648) : bits .and .i32 x 63 = x % 64 := bits_mask .i32 31 (by decide) wraps_i32 6 (by decide) x h0 h1
theorem join128 (y : Int) (h0 : 0 ≤ y) (h1 : y < 64) : bits .or .i32 128 y = 128 + y :=
  bits_join .i32 31 (by decide) wraps_i32 6 128 y (by decide) (by decide) (by decide) h0 h1 (by omega)
theorem join192 (y : Int) (h0 : 0 ≤ y) (h1 : y < 32) : bits .or .i32 192 y = 192 + y :=
  bits_join .i32 31 (by decide) wraps_i32 5 192 y (by decide) (by decide) (by decide) h0 h1 (by omega)
theorem join224 (y : Int) (h0 : 0 ≤ y) (h1 : y < 16) : bits .or .i32 224 y = 224 + y :=
  bits_join .i32 31 (by decide) wraps_i32 4 224 y (by decide) (by decide) (by decide) h0 h1 (by omega)
theorem join240 (y : Int) (h0 : 0 ≤ y) (h1 : y < 8) : bits .or .i32 240 y = 240 + y :=
  bits_join .i32 31 (by decide) wraps_i32 3 240 y (by decide) (by decide) (by decide) h0 h1 (by omega)

/-- 'string([]byte{..})' of a slice that was just laid -/
theorem conv_list (w : World) (xs : List Int) (n : Nat) (hn : xs.length = n) :
    (convert 24 9 (.slice (some ⟨w.heap.size, 0, none⟩) n n)).run Yba.prog (w.alloc (.cells (xs.map (Value.int .u8)).toArray 5)) = .ok (.string (strOfNums xs)) (w.alloc (.cells (xs.map (Value.int .u8)).toArray 5)) := by
  refine run_convert_bytes_arg _ 24 5 Yba.underlying24 Yba.underlying5 w.heap.size 0 n n xs hn ?_ 9 Yba.underlying9
  intro i hi
  rw [Lib.cell_of_heap (heap_alloc_new w _)]
  simp [List.getElem?_eq_getElem (show i < xs.length by omega)]
theorem conv1 (w : World) (a : Int) : (convert 24 9 (.slice (some ⟨w.heap.size, 0, none⟩) 1 1)).run Yba.prog (w.alloc (.cells #[.int .u8 a] 5)) = .ok (.string (strOfNums [a])) (w.alloc (.cells #[.int .u8 a] 5)) := conv_list w [a] 1 rfl
theorem conv2 (w : World) (a b : Int) : (convert 24 9 (.slice (some ⟨w.heap.size, 0, none⟩) 2 2)).run Yba.prog (w.alloc (.cells #[.int .u8 a, .int .u8 b] 5)) = .ok (.string (strOfNums [a, b])) (w.alloc (.cells #[.int .u8 a, .int .u8 b] 5)) := conv_list w [a, b] 2 rfl
theorem conv3 (w : World) (a b c : Int) : (convert 24 9 (.slice (some ⟨w.heap.size, 0, none⟩) 3 3)).run Yba.prog (w.alloc (.cells #[.int .u8 a, .int .u8 b, .int .u8 c] 5)) = .ok (.string (strOfNums [a, b, c])) (w.alloc (.cells #[.int .u8 a, .int .u8 b, .int .u8 c] 5)) := conv_list w [a, b, c] 3 rfl
theorem conv4 (w : World) (a b c d : Int) : (convert 24 9 (.slice (some ⟨w.heap.size, 0, none⟩) 4 4)).run Yba.prog (w.alloc (.cells #[.int .u8 a, .int .u8 b, .int .u8 c, .int .u8 d] 5)) = .ok (.string (strOfNums [a, b, c, d])) (w.alloc (.cells #[.int .u8 a, .int .u8 b, .int .u8 c, .int .u8 d] 5)) := conv_list w [a, b, c, d] 4 rfl

theorem enc_eq (r : Int) : (⟨(Lib.encodeRune r).toArray⟩ : ByteArray) = strOfNums (Lib.encodeRuneZ r) := rfl

set_option maxHeartbeats 4000000 in
set_option maxRecDepth 100000 in
theorem enc_one (r : Int) (h0 : 0 ≤ r) (h1 : r ≤ 127) (w : World) :
    Calls Yba.prog 10 #[.int .i32 r] w fun e w' => e = .returned (.string ⟨(Lib.encodeRune r).toArray⟩) ∧ Below w.heap.size w w' := by
  rw [enc_eq, Lib.encodeRuneZ_one h0 h1]
  have hcv := conv1 w
  go_enter Yba.func10, Yba.ntmps10
  go_wp2
  go_ret
  exact ⟨rfl, (Below.refl _ _).alloc (Nat.le_refl _) _⟩
set_option maxHeartbeats 4000000 in
set_option maxRecDepth 100000 in
theorem enc_two (r : Int) (h0 : 128 ≤ r) (h1 : r ≤ 2047) (w : World) :
    Calls Yba.prog 10 #[.int .i32 r] w fun e w' => e = .returned (.string ⟨(Lib.encodeRune r).toArray⟩) ∧ Below w.heap.size w w' := by
  rw [enc_eq, Lib.encodeRuneZ_two h0 h1]
  have hcv := conv2 w
  have m0 := tail6 r (by omega) (by omega)
  have n0 := join128 (r % 64) (by omega) (by omega)
  have n1 := join192 (r / 64) (by omega) (by omega)
  go_enter Yba.func10, Yba.ntmps10
  go_wp2
  go_ret
  exact ⟨rfl, (Below.refl _ _).alloc (Nat.le_refl _) _⟩
set_option maxHeartbeats 4000000 in
set_option maxRecDepth 100000 in
theorem enc_three (r : Int) (h : (2048 ≤ r ∧ r < 55296) ∨ (57343 < r ∧ r ≤ 65535)) (w : World) :
    Calls Yba.prog 10 #[.int .i32 r] w fun e w' => e = .returned (.string ⟨(Lib.encodeRune r).toArray⟩) ∧ Below w.heap.size w w' := by
  rw [enc_eq, Lib.encodeRuneZ_three h]
  have hcv := conv3 w
  have m0 := tail6 r (by omega) (by omega)
  have m6 := tail6 (r / 64) (by omega) (by omega)
  have n0 := join128 (r % 64) (by omega) (by omega)
  have n6 := join128 (r / 64 % 64) (by omega) (by omega)
  have n1 := join224 (r / 4096) (by omega) (by omega)
  rcases h with ⟨ha, hb⟩ | ⟨ha, hb⟩
  all_goals
    go_enter Yba.func10, Yba.ntmps10
    go_wp2
    go_ret
    exact ⟨rfl, (Below.refl _ _).alloc (Nat.le_refl _) _⟩
set_option maxHeartbeats 4000000 in
set_option maxRecDepth 100000 in
theorem enc_four (r : Int) (h0 : 65536 ≤ r) (h1 : r ≤ 1114111) (w : World) :
    Calls Yba.prog 10 #[.int .i32 r] w fun e w' => e = .returned (.string ⟨(Lib.encodeRune r).toArray⟩) ∧ Below w.heap.size w w' := by
  rw [enc_eq, Lib.encodeRuneZ_four h0 h1]
  have hcv := conv4 w
  have m0 := tail6 r (by omega) (by omega)
  have m6 := tail6 (r / 64) (by omega) (by omega)
  have m12 := tail6 (r / 4096) (by omega) (by omega)
  have n0 := join128 (r % 64) (by omega) (by omega)
  have n6 := join128 (r / 64 % 64) (by omega) (by omega)
  have n12 := join128 (r / 4096 % 64) (by omega) (by omega)
  have n1 := join240 (r / 262144) (by omega) (by omega)
  go_enter Yba.func10, Yba.ntmps10
  go_wp2
  go_ret
  exact ⟨rfl, (Below.refl _ _).alloc (Nat.le_refl _) _⟩
set_option maxHeartbeats 4000000 in
set_option maxRecDepth 100000 in
theorem enc_bad (r : Int) (h : r < 0 ∨ (55296 ≤ r ∧ r ≤ 57343) ∨ 1114111 < r) (w : World) :
    Calls Yba.prog 10 #[.int .i32 r] w fun e w' => e = .returned (.string ⟨(Lib.encodeRune r).toArray⟩) ∧ Below w.heap.size w w' := by
  rw [enc_eq, Lib.encodeRuneZ_bad h]
  rcases h with ha | ⟨ha, hb⟩ | ha
  all_goals
    go_enter Yba.func10, Yba.ntmps10
    go_wp2
    go_ret
    exact ⟨rfl, Below.refl _ _⟩
/-- zzs1575aenc at every int32: the rune's UTF-8, U+FFFD's for what is no rune -/
theorem enc_any (r : Int) (w : World) :
    Calls Yba.prog 10 #[.int .i32 r] w fun e w' => e = .returned (.string ⟨(Lib.encodeRune r).toArray⟩) ∧ Below w.heap.size w w' := by
  by_cases h1 : 0 ≤ r ∧ r ≤ 127
  · exact enc_one r h1.1 h1.2 w
  by_cases h2 : 128 ≤ r ∧ r ≤ 2047
  · exact enc_two r h2.1 h2.2 w
  by_cases h3 : (2048 ≤ r ∧ r < 55296) ∨ (57343 < r ∧ r ≤ 65535)
  · exact enc_three r h3 w
  by_cases h4 : 65536 ≤ r ∧ r ≤ 1114111
  · exact enc_four r h4.1 h4.2 w
  · exact enc_bad r (by omega) w
end Go.Proofs.Ybulkafpc
