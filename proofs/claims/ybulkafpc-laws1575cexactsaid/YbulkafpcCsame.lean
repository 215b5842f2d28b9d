/-
  CONTRACT of zzs1575csame (14).
-/
import Derived.Test.YbulkafpcMk
namespace Go.Proofs.Ybulkafpc
open Go.RowKit
/-- zzs1575csame, plain -/
def psame (a b : Path) : Bool := decide (a.st % 3 = b.st % 3) && decide (a.tag % 3 = b.tag % 3)
theorem psame_alike {a b : Path} (ha : a.ok) (hb : b.ok) : alike (mk a) (mk b) = psame a b := by
  obtain ⟨-, ⟨a0, -⟩, -⟩ := ha
  obtain ⟨-, ⟨b0, -⟩, -⟩ := hb
  unfold alike psame mk
  have : ((a.tag % 3).toNat = (b.tag % 3).toNat) ↔ a.tag % 3 = b.tag % 3 := by omega
  simp only [this]
  congr 1
set_option maxHeartbeats 1000000 in
set_option maxRecDepth 10000 in
theorem csame_any (a b : Path) (ha : a.ok) (hb : b.ok) (w : World) :
    Calls Yba.prog 14 #[.agg (pcells a).toArray, .agg (pcells b).toArray] w fun e w' => e = .returned (.bool (psame a b)) ∧ Below w.heap.size w w' := by
  obtain ⟨⟨a0, a1⟩, ⟨b0, b1⟩, -⟩ := ha
  obtain ⟨⟨c0, c1⟩, ⟨d0, d1⟩, -⟩ := hb
  have u0 : (pcells a)[0]? = some (.int .u8 a.st) := rfl
  have u1 : (pcells a)[1]? = some (.int .u8 a.tag) := rfl
  have v0 : (pcells b)[0]? = some (.int .u8 b.st) := rfl
  have v1 : (pcells b)[1]? = some (.int .u8 b.tag) := rfl
  have hbel : Below w.heap.size w ((w.alloc (.cells (pcells a).toArray 47)).alloc (.cells (pcells b).toArray 47)) := (((Below.refl _ w).alloc (Nat.le_refl _) _)).alloc (by simp) _
  by_cases h : a.st % 3 = b.st % 3
  · have e1 : (a.st % 3 == b.st % 3) = true := by simpa using h
    have e2 : psame a b = (a.tag % 3 == b.tag % 3) := by
      unfold psame; simp only [h, decide_true, Bool.true_and]; rfl
    rw [e2]
    clear e2 h
    go_enter Yba.func14, Yba.ntmps14
    go_wp2
    go_ret
    exact ⟨rfl, hbel⟩
  · have e1 : (a.st % 3 == b.st % 3) = false := by simpa using h
    have e2 : psame a b = false := by unfold psame; simp [h]
    rw [e2]
    clear e2 h
    go_enter Yba.func14, Yba.ntmps14
    go_wp2
    go_ret
    exact ⟨rfl, hbel⟩
end Go.Proofs.Ybulkafpc
