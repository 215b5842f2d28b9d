/-
  CONTRACTS of Name, Path, Domain at what 'zzs1577bbuild' lays over a domain that is not empty.
-/
import Derived.Test.YbulkafqeRefs
import Derived.WalkKit
import Derived.ProofKit
import Derived.WalkSpells
namespace Go.Proofs.Ybulkafqe
open Go.RowKit

theorem head_mid (d p s : ByteArray) (n : Nat) (h : n = d.size + 1 + p.size) : (d ++ ⟨#[47]⟩ ++ p ++ s).extract 0 n = d ++ ⟨#[47]⟩ ++ p := by
  have e : (d ++ ⟨#[47]⟩ ++ p).size = n := by simp only [ByteArray.size_append]; rw [h]; rfl
  rw [← e]; exact extract_head _ _
theorem extract_tail (d r : ByteArray) : (d ++ r).extract d.size (d.size + r.size) = r := by
  exact ByteArray.extract_append_eq_right rfl rfl
theorem mid_ref (d p s : ByteArray) (m n : Nat) (hm : m = d.size + 1) (h : n = d.size + 1 + p.size) : (d ++ ⟨#[47]⟩ ++ p ++ s).extract m n = p := by
  have e : (d ++ ⟨#[47]⟩ : ByteArray).size = m := by simp only [ByteArray.size_append]; rw [hm]; rfl
  have k := extract_tail (d ++ ⟨#[47]⟩) p
  rw [e] at k
  have l := head_mid d p s n h
  have : n = m + p.size := by omega
  subst this
  rw [← l] at k
  rw [ByteArray.extract_extract] at k
  simpa using k

/-- Name, Path, Domain of what 'zzs1577bbuild' lays over a domain -/
theorem name_ref (d p s : ByteArray) (hd : d.size ≤ 4096) (hp : p.size ≤ 255) (w : World) :
    Calls Yba.prog 10 #[.agg #[.string (d ++ ⟨#[47]⟩ ++ p ++ s), .int .i64 (↑d.size + 1 + ↑p.size), .int .u8 ↑p.size, .int .u8 0]] w fun e w' => e = .returned (.string (d ++ ⟨#[47]⟩ ++ p)) ∧ w' = w.alloc (.cells #[.string (d ++ ⟨#[47]⟩ ++ p ++ s), .int .i64 (↑d.size + 1 + ↑p.size), .int .u8 ↑p.size, .int .u8 0] 23) := by
  have hz := size_ref d p s
  have c := name_any (d ++ ⟨#[47]⟩ ++ p ++ s) (↑d.size + 1 + ↑p.size) ↑p.size 0 (by omega) (by omega) w
  rw [head_mid d p s _ (by omega)] at c
  exact c
theorem path_ref (d p s : ByteArray) (hd : d.size ≤ 4096) (hp : p.size ≤ 255) (hs : s.size ≤ 4096) (w : World) :
    Calls Yba.prog 11 #[.agg #[.string (d ++ ⟨#[47]⟩ ++ p ++ s), .int .i64 (↑d.size + 1 + ↑p.size), .int .u8 ↑p.size, .int .u8 0]] w fun e w' => e = .returned (.string p) ∧ w' = w.alloc (.cells #[.string (d ++ ⟨#[47]⟩ ++ p ++ s), .int .i64 (↑d.size + 1 + ↑p.size), .int .u8 ↑p.size, .int .u8 0] 23) := by
  have hz := size_ref d p s
  have c := path_any (d ++ ⟨#[47]⟩ ++ p ++ s) (↑d.size + 1 + ↑p.size) ↑p.size 0 (by omega) (by omega) (by omega) (by omega) (by omega) w
  rw [mid_ref d p s _ _ (by omega) (by omega)] at c
  exact c
theorem domain_ref (d p s : ByteArray) (hd0 : 0 < d.size) (hd : d.size ≤ 4096) (hp : p.size ≤ 255) (hs : s.size ≤ 4096) (w : World) :
    Calls Yba.prog 9 #[.agg #[.string (d ++ ⟨#[47]⟩ ++ p ++ s), .int .i64 (↑d.size + 1 + ↑p.size), .int .u8 ↑p.size, .int .u8 0]] w fun e w' => e = .returned (.string d) ∧ w' = w.alloc (.cells #[.string (d ++ ⟨#[47]⟩ ++ p ++ s), .int .i64 (↑d.size + 1 + ↑p.size), .int .u8 ↑p.size, .int .u8 0] 23) := by
  have hz := size_ref d p s
  have c := domain_some (d ++ ⟨#[47]⟩ ++ p ++ s) (↑d.size + 1 + ↑p.size) ↑p.size 0 (by omega) (by omega) (by omega) (by omega) (by omega) w
  rw [head_ref d p s _ (by omega)] at c
  exact c
end Go.Proofs.Ybulkafqe
