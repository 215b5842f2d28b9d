import Derived.Test.YbulkafqeRows
import Derived.Test.YbulkafqePlain
import Derived.WalkKit
import Derived.ProofKit
import Derived.WalkSpells
import Derived.Laws.BitsAllLaws
namespace Go.Proofs.Ybulkafqe
open Go.RowKit Plain
theorem reckon (x lo hi : Int) (hx0 : 0 ≤ x) (hx1 : x < 18446744073709551616) (hl0 : 0 ≤ lo) (hl1 : lo ≤ 127) (hh0 : 0 ≤ hi) (hh1 : hi ≤ 127) :
    (bits BinOp.and IntKind.u64
                        (bits BinOp.andNot IntKind.u64
                          (bits BinOp.andNot IntKind.u64
                            (IntKind.u64.wrap
                              (bits BinOp.andNot IntKind.u64 x 9259542123273814144 + (128 - lo) * 72340172838076673))
                            (IntKind.u64.wrap
                              (bits BinOp.andNot IntKind.u64 x 9259542123273814144 + (127 - hi) * 72340172838076673)))
                          x)
                        9259542123273814144) = ((marks lo.toNat hi.toNat 8 x.toNat : Nat) : Int) := by
  obtain ⟨X, rfl⟩ := Int.eq_ofNat_of_zero_le hx0
  obtain ⟨l, rfl⟩ := Int.eq_ofNat_of_zero_le hl0
  obtain ⟨h, rfl⟩ := Int.eq_ofNat_of_zero_le hh0
  simp only [Int.toNat_natCast]
  have hX : X < 18446744073709551616 := by omega
  have hl : l ≤ 127 := by omega
  have hh : h ≤ 127 := by omega
  have eF : full 8 = 18446744073709551615 := by decide +kernel
  have eH : highs 8 = 9259542123273814144 := by decide +kernel
  have eO : ones 8 = 72340172838076673 := by decide +kernel
  have eL : lows7 8 = 18446744073709551615 - 9259542123273814144 := by decide +kernel
  have f1 : word (128 - l) 8 X ≤ 18446744073709551615 := by rw [← eF]; exact word_lt _ _ _ (by omega)
  have f2 : word (127 - h) 8 X ≤ 18446744073709551615 := by rw [← eF]; exact word_lt _ _ _ (by omega)
  have law := words_law l h hl hh 8 X (by rw [eF]; omega)
  rw [eF, eH] at law
  have y := u64_andNot_nat X 9259542123273814144 hX (by decide)
  rw [show ((9259542123273814144 : Nat) : Int) = (9259542123273814144 : Int) from rfl] at y
  rw [y]
  have g1 : ((X &&& (18446744073709551615 - 9259542123273814144) : Nat) : Int) + (128 - (l : Int)) * 72340172838076673 = ((word (128 - l) 8 X : Nat) : Int) := by
    unfold word; rw [eL, eO]; omega
  have g2 : ((X &&& (18446744073709551615 - 9259542123273814144) : Nat) : Int) + (127 - (h : Int)) * 72340172838076673 = ((word (127 - h) 8 X : Nat) : Int) := by
    unfold word; rw [eL, eO]; omega
  rw [g1, g2]
  generalize word (128 - l) 8 X = A at *
  generalize word (127 - h) 8 X = B at *
  rw [IntKind.wrap_u64, IntKind.wrap_u64, Int.emod_eq_of_lt (by omega) (by omega), Int.emod_eq_of_lt (by omega) (by omega)]
  rw [u64_andNot_nat A B (by omega) (by omega)]
  rw [u64_andNot_nat _ X (Nat.lt_of_le_of_lt Nat.and_le_left (by omega)) hX]
  rw [show (9259542123273814144 : Int) = ((9259542123273814144 : Nat) : Int) from rfl]
  rw [u64_and_nat _ _ (Nat.lt_of_le_of_lt Nat.and_le_left (Nat.lt_of_le_of_lt Nat.and_le_left (by omega))) (by decide), law]

set_option maxHeartbeats 400000 in
theorem bytesIn_any (x lo hi : Int) (hx0 : 0 ≤ x) (hx1 : x < 18446744073709551616) (hl0 : 0 ≤ lo) (hl1 : lo ≤ 127) (hh0 : 0 ≤ hi) (hh1 : hi ≤ 127) (w : World) :
    Calls Yba.prog 13 #[.int .u64 x, .int .u8 lo, .int .u8 hi] w fun e w' => e = .returned (.int .u64 ((marks lo.toNat hi.toNat 8 x.toNat : Nat) : Int)) ∧ w' = w := by
  rw [← reckon x lo hi hx0 hx1 hl0 hl1 hh0 hh1]
  go_enter Yba.func13, Yba.ntmps13
  go_wp2
  go_ret
  exact ⟨rfl, rfl⟩


theorem byte_at (x : Int) (hx0 : 0 ≤ x) (k : Nat) : x / 2 ^ (8 * k) % 256 = ((x.toNat / 256 ^ k % 256 : Nat) : Int) := by
  obtain ⟨X, rfl⟩ := Int.eq_ofNat_of_zero_le hx0
  rw [Int.toNat_natCast]
  have e : (256 : Nat) ^ k = 2 ^ (8 * k) := by rw [Nat.pow_mul]
  rw [e, Int.natCast_emod, Int.natCast_ediv, Int.natCast_pow]
  rfl
theorem upTo_succ (lo hi x k : Nat) : upTo lo hi x (k + 1) = upTo lo hi x k + markOf lo hi (x / 256 ^ k % 256) * 256 ^ k := rfl
theorem step_no (x lo hi : Int) (hx0 : 0 ≤ x) (hl0 : 0 ≤ lo) (hh0 : 0 ≤ hi) (k : Nat)
    (h : ¬ (x / 2 ^ (8 * k) % 256 < 128 ∧ lo ≤ x / 2 ^ (8 * k) % 256 ∧ x / 2 ^ (8 * k) % 256 ≤ hi)) :
    upTo lo.toNat hi.toNat x.toNat k = upTo lo.toNat hi.toNat x.toNat (k + 1) := by
  rw [byte_at x hx0 k] at h
  rw [upTo_succ]; unfold markOf; rw [if_neg (by omega)]
  omega
theorem step_yes (x lo hi : Int) (hx0 : 0 ≤ x) (_hl0 : 0 ≤ lo) (hh0 : 0 ≤ hi) (k : Nat) (hk : k < 8)
    (h : x / 2 ^ (8 * k) % 256 < 128 ∧ lo ≤ x / 2 ^ (8 * k) % 256 ∧ x / 2 ^ (8 * k) % 256 ≤ hi) :
    bits BinOp.or IntKind.u64 (↑(upTo lo.toNat hi.toNat x.toNat k)) (IntKind.u64.wrap (128 * 2 ^ (8 * k))) = ((upTo lo.toNat hi.toNat x.toNat (k + 1) : Nat) : Int) := by
  rw [byte_at x hx0 k] at h
  rw [upTo_succ]; unfold markOf; rw [if_pos (by omega)]
  have hu := upTo_lt lo.toNat hi.toNat x.toNat k
  have e : (256 : Nat) ^ k = 2 ^ (8 * k) := by rw [Nat.pow_mul]
  have hp : (2 : Nat) ^ (8 * k) ≤ 2 ^ 56 := Nat.pow_le_pow_right (by omega) (by omega)
  rw [e] at hu ⊢
  have g : (128 * 2 ^ (8 * k) : Int) = ((128 * 2 ^ (8 * k) : Nat) : Int) := by rw [Int.natCast_mul, Int.natCast_pow]; rfl
  have hq : (2 : Nat) ^ 56 = 72057594037927936 := rfl
  rw [hq] at hp
  rw [g, IntKind.wrap_u64, Int.emod_eq_of_lt (by omega) (by omega)]
  rw [u64_or_nat _ _ (by omega) (by omega), Nat.or_comm]
  rw [nat_join (8 * k) _ _ (Nat.mul_mod_left _ _) hu]
  omega

set_option maxHeartbeats 400000 in
theorem cmodel_any (x lo hi : Int) (hx0 : 0 ≤ x) (_hx1 : x < 18446744073709551616) (hl0 : 0 ≤ lo) (_hl1 : lo ≤ 127) (hh0 : 0 ≤ hi) (_hh1 : hi ≤ 127) (w : World) :
    Calls Yba.prog 14 #[.int .u64 x, .int .u8 lo, .int .u8 hi] w fun e w' => e = .returned (.int .u64 ((marks lo.toNat hi.toNat 8 x.toNat : Nat) : Int)) ∧ w' = w := by
  rw [← upTo_marks]
  go_enter Yba.func14, Yba.ntmps14
  go_wp2
  go_loop [7, 8] (fun m i => ∃ k : Nat, k ≤ 8 ∧ i = .int .u64 k ∧ m = .int .u64 ((upTo lo.toNat hi.toNat x.toNat k : Nat) : Int)) (fun _ i => 8 - (intOf i).toNat)
  case atStart => exact ⟨0, Nat.zero_le _, rfl, rfl⟩
  case round =>
    obtain ⟨k, hk, rfl, rfl⟩ := hrel
    by_cases hlt : k < 8
    · go_wp2
      · go_round
        case rel => exact ⟨k + 1, by omega, by go_num, congrArg (Value.int .u64) (step_yes x lo hi hx0 hl0 hh0 k hlt ⟨‹_›, ‹_›, ‹_›⟩)⟩
        case measure => simp [intOf]; omega
      all_goals
        go_round
        case rel => exact ⟨k + 1, by omega, by go_num, congrArg (fun n : Nat => Value.int .u64 (n : Int)) (step_no x lo hi hx0 hl0 hh0 k (by omega))⟩
        case measure => simp [intOf]; omega
    · go_wp2
      go_ret
      obtain rfl : k = 8 := by omega
      exact ⟨rfl, rfl⟩
end Go.Proofs.Ybulkafqe
