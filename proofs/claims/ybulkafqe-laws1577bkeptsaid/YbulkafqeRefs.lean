/-
  CONTRACTS of the Reference's functions: newReference (16), zzs1577bbuild (8), Domain (9), Name (10), Path (11).
-/
import Derived.Test.YbulkafqeRows
import Derived.WalkKit
import Derived.ProofKit
import Derived.WalkSpells
namespace Go.Proofs.Ybulkafqe
open Go.RowKit

theorem grown_trans {a b c : World} (h : Grown a b) (k : Grown b c) : Grown a c :=
  ⟨World.keptBut_trans h.1 k.1, fun x => (k.2.1 x).trans (h.2.1 x), Nat.le_trans h.2.2 k.2.2⟩

set_option maxHeartbeats 400000 in
theorem newRef_any (t : ByteArray) (n p q : Nat) (hp : p ≤ 255) (hq : q ≤ 255) (w : World) :
    Calls Yba.prog 16 #[.string t, .int .i64 n, .int .i64 p, .int .i64 q] w fun e w' => e = .returned (.agg #[.string t, .int .i64 n, .int .u8 p, .int .u8 q]) ∧ w' = w.alloc (.cells #[.string t, .int .i64 n, .int .u8 p, .int .u8 q] 23) := by
  go_enter Yba.func16, Yba.ntmps16
  go_wp2
  exact bodyPost_ret (v := .agg #[.string t, .int .i64 n, .int .u8 p, .int .u8 q]) (by simp [results, Yba.results16, go_sem]) rfl ⟨rfl, rfl⟩

set_option maxHeartbeats 400000 in
theorem build_none (p s : ByteArray) (hp : p.size ≤ 255) (hs : s.size ≤ 4096) (w : World) :
    Calls Yba.prog 8 #[.string ByteArray.empty, .string p, .string s] w fun e w' => e = .returned (.agg #[.string (p ++ s), .int .i64 p.size, .int .u8 p.size, .int .u8 0]) ∧ Grown w w' := by
  go_enter Yba.func8, Yba.ntmps8
  go_wp2_with (first | (go_at_call 16; refine (newRef_any _ _ _ 0 (by omega) (by omega) _).mono ?_; rintro e w' ⟨rfl, rfl⟩))
  exact bodyPost_ret (v := .agg #[.string (p ++ s), .int .i64 p.size, .int .u8 p.size, .int .u8 0]) (by simp [results, Yba.results8, go_sem]) rfl ⟨rfl, by repeat (first | exact Grown.refl _ | apply Grown.alloc)⟩

set_option maxHeartbeats 400000 in
theorem build_some (d p s : ByteArray) (hd0 : d.toList.isEmpty = false) (hd : d.size ≤ 4096) (hp : p.size ≤ 255) (hs : s.size ≤ 4096) (w : World) :
    Calls Yba.prog 8 #[.string d, .string p, .string s] w fun e w' => e = .returned (.agg #[.string (d ++ ⟨#[47]⟩ ++ p ++ s), .int .i64 ((d.size + 1 + p.size : Nat) : Int), .int .u8 p.size, .int .u8 0]) ∧ Grown w w' := by
  go_enter Yba.func8, Yba.ntmps8
  go_wp2_with (first | (go_at_call 16; refine (newRef_any _ _ _ 0 (by omega) (by omega) _).mono ?_; rintro e w' ⟨rfl, rfl⟩))
  exact bodyPost_ret (v := .agg #[.string (d ++ ⟨#[47]⟩ ++ p ++ s), .int .i64 ((d.size + 1 + p.size : Nat) : Int), .int .u8 p.size, .int .u8 0]) (by simp [results, Yba.results8, go_sem]) rfl ⟨rfl, by repeat (first | exact Grown.refl _ | apply Grown.alloc)⟩

set_option maxHeartbeats 400000 in
theorem domain_some (t : ByteArray) (n p q : Int) (hp0 : 0 ≤ p) (hp : p ≤ 255) (hn : n ≤ t.size) (ht : t.size ≤ 10000) (h : p + 1 < n) (w : World) :
    Calls Yba.prog 9 #[.agg #[.string t, .int .i64 n, .int .u8 p, .int .u8 q]] w fun e w' => e = .returned (.string (t.extract 0 ((n - p).toNat - 1))) ∧ w' = w.alloc (.cells #[.string t, .int .i64 n, .int .u8 p, .int .u8 q] 23) := by
  go_enter Yba.func9, Yba.ntmps9
  go_wp2
  go_ret
  exact ⟨rfl, rfl⟩
set_option maxHeartbeats 400000 in
theorem domain_none (t : ByteArray) (n p q : Int) (hp0 : 0 ≤ p) (hp : p ≤ 255) (hn0 : 0 ≤ n) (h : n ≤ p + 1) (w : World) :
    Calls Yba.prog 9 #[.agg #[.string t, .int .i64 n, .int .u8 p, .int .u8 q]] w fun e w' => e = .returned (.string ByteArray.empty) ∧ w' = w.alloc (.cells #[.string t, .int .i64 n, .int .u8 p, .int .u8 q] 23) := by
  go_enter Yba.func9, Yba.ntmps9
  go_wp2
  go_ret
  exact ⟨rfl, rfl⟩
set_option maxHeartbeats 400000 in
theorem name_any (t : ByteArray) (n p q : Int) (hn0 : 0 ≤ n) (hn : n ≤ t.size) (w : World) :
    Calls Yba.prog 10 #[.agg #[.string t, .int .i64 n, .int .u8 p, .int .u8 q]] w fun e w' => e = .returned (.string (t.extract 0 n.toNat)) ∧ w' = w.alloc (.cells #[.string t, .int .i64 n, .int .u8 p, .int .u8 q] 23) := by
  go_enter Yba.func10, Yba.ntmps10
  go_wp2
  go_ret
  exact ⟨rfl, rfl⟩
set_option maxHeartbeats 400000 in
theorem path_any (t : ByteArray) (n p q : Int) (hp0 : 0 ≤ p) (hp : p ≤ 255) (hpn : p ≤ n) (hn : n ≤ t.size) (ht : t.size ≤ 10000) (w : World) :
    Calls Yba.prog 11 #[.agg #[.string t, .int .i64 n, .int .u8 p, .int .u8 q]] w fun e w' => e = .returned (.string (t.extract (n - p).toNat n.toNat)) ∧ w' = w.alloc (.cells #[.string t, .int .i64 n, .int .u8 p, .int .u8 q] 23) := by
  go_enter Yba.func11, Yba.ntmps11
  go_wp2
  go_ret
  exact ⟨rfl, rfl⟩

theorem extract_head (d r : ByteArray) : (d ++ r).extract 0 d.size = d := by
  apply ByteArray.ext
  simp

theorem not_empty (d : ByteArray) (h : d ≠ ByteArray.empty) : d.toList.isEmpty = false ∧ 0 < d.size := by
  have h1 : 0 < d.size := by
    rcases Nat.eq_zero_or_pos d.size with h0 | h0
    · exact absurd (ByteArray.size_eq_zero_iff.1 h0) h
    · exact h0
  refine ⟨?_, h1⟩
  rw [Go.ByteArray.toList_eq]
  have h2 : d.data.toList.length = d.size := rfl
  cases hl : d.data.toList with
  | nil => rw [hl] at h2; simp at h2; omega
  | cons a l => rfl
theorem size_ref (d p s : ByteArray) : (d ++ ⟨#[47]⟩ ++ p ++ s).size = d.size + 1 + p.size + s.size := by
  simp only [ByteArray.size_append]; rfl
theorem head_ref (d p s : ByteArray) (n : Nat) (h : n = d.size) : (d ++ ⟨#[47]⟩ ++ p ++ s).extract 0 n = d := by
  subst h
  rw [ByteArray.append_assoc, ByteArray.append_assoc]; exact extract_head _ _
end Go.Proofs.Ybulkafqe
