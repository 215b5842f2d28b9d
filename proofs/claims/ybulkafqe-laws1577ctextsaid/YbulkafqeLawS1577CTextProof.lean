/-
  PROOF OF 'Rows.LawS1577CTextSaid': the frame by the guide's skeleton tool; the walk by the contracts of YbulkafqeBits.
-/
import Derived.Test.YbulkafqeRows
import Derived.Test.YbulkafqeBits
import Derived.WalkSpells
import Derived.WalkKit
import Derived.ProofKit
import Derived.OpenShut
import Derived.ShutString
namespace Go.Proofs.Ybulkafqe.lawS1577CText
open Go.ChangeShapes Go.WideShapes Go.ChangeAt Go.RowKit
open Go.ChangeMaps (open_string shut_string)
set_option linter.unusedVariables false      -- a walk need not use every 'w<i>' (that an integer argument fits its kind)

theorem own : ownKnob Yba.prog.godebug = none := by kernel_rfl

set_option maxHeartbeats 400000 in
/-- the eight ranges: each bound is ASCII -/
theorem crange_any (a : Int) (h0 : 0 ≤ a) (h1 : a ≤ 255) (w : World) :
    Calls Yba.prog 15 #[.int .u8 a] w fun e w' => ∃ lo hi : Int, 0 ≤ lo ∧ lo ≤ 127 ∧ 0 ≤ hi ∧ hi ≤ 127 ∧ e = .returned (.tuple #[.int .u8 lo, .int .u8 hi]) ∧ w' = w := by
  go_enter Yba.func15, Yba.ntmps15
  go_wp2
  all_goals
    go_ret2
    exact ⟨_, _, by decide, by decide, by decide, by decide, rfl, rfl⟩

/-! ### STEP 1: THE WALK: the Go text returns true. 'Grown w w'': the world has at most new blocks (Derived/RowKit3.lean). Part the cases AHEAD of 'go_enter' where a test parts the walk; take each callee by a contract of your own. -/
theorem walk (a0 : ByteArray) (a1 : Int) (w0 : a0.size ≤ maxLen) (w1 : (Lit.int .u8 a1).wf = true) (w : World) :
    Calls Yba.prog 7 #[.string a0, .int .u8 a1] w fun e w' => e = .returned (.bool true) ∧ Grown w w' := by
  obtain ⟨s0, s1⟩ := bounds_u8 w1
  unfold maxLen at w0
  go_enter Yba.func7, Yba.ntmps7
  go_wp2
  go_loop [5, 6] (fun x i => ∃ (k : Nat) (X : Int), k ≤ 8 ∧ k ≤ a0.size ∧ i = .int .i64 k ∧ x = .int .u64 X ∧ (Lit.int .u64 X).wf = true) (fun _ i => 8 - (intOf i).toNat)
  case atStart => exact ⟨0, 0, Nat.zero_le _, Nat.zero_le _, rfl, rfl, by decide⟩
  case round =>
    obtain ⟨k, X, hk8, hk, rfl, rfl, wX⟩ := hrel
    obtain ⟨x0, x1⟩ := bounds_u64 wX
    by_cases hlt : k < a0.size ∧ k < 8
    · obtain ⟨hlt, hlt8⟩ := hlt
      go_wp2
      go_round
      case rel => exact ⟨k + 1, _, by omega, by omega, by go_num, rfl, wf_bits _ _ _ _⟩
      case measure => simp [intOf]; omega
    · by_cases hlt2 : k < a0.size
      all_goals
        go_wp2_with (first
          | (go_at_call 15; refine (crange_any a1 s0 s1 _).mono ?_; rintro e w' ⟨lo, hi, l0, l1, h0, h1, rfl, rfl⟩)
          | (go_at_call 13; refine (bytesIn_any X lo hi x0 (by omega) l0 l1 h0 h1 _).mono ?_; rintro e w' ⟨rfl, rfl⟩)
          | (go_at_call 14; refine (cmodel_any X lo hi x0 (by omega) l0 l1 h0 h1 _).mono ?_; rintro e w' ⟨rfl, rfl⟩))
        go_ret
        exact ⟨by simp, Grown.refl _⟩

/-! ### THE ROW's STEP: WRITTEN OUT: LEAVE IT -/
set_option maxRecDepth 100000 in
theorem lifted (os : Os) (started : os.Started) (H : Type) (enc : TypeId × Value → H) :
    ReturnsInHanded {} Yba.checked os 7 .any (Rows.lawS1577CTextSpec.pre6 enc Yba.prog Yba.f7 Rows.lawS1577CTextRow.domain false) (Rows.lawS1577CTextSpec.post enc Yba.prog Yba.f7 false true false false) := by
  refine returnsInHanded_of_change (C := Yba.checked) own started (by kernel_rfl) Yba.func7
    (ChangeSpec.witness6 (enc := enc) (C := Yba.checked) false ⟨#[], #[.string ByteArray.empty, .int .u8 0], []⟩ 8 (by kernel_rfl) (by kernel_rfl) (by kernel_rfl) (by kernel_rfl)) ?_
  intro W base args ds gs before hval0 hW hcnd _
  have hval : ∀ (j : Nat) t v, Yba.f7.params[j]? = some t → args[j]? = some v → Value.okWide Yba.prog W .any base t v := hval0
  have hW' := hW
  obtain ⟨p, q, hA0, hV, rfl, hfz, hnd⟩ := hW
  have hA : DataW.TrodAll enc Yba.prog W 0 (fun _ => true) true Yba.f7.params.toList args.toList ds p := hA0
  rw [Yba.params7] at hA hval
  obtain ⟨v0, vs0, d0, ds0, p0, q0, hargs, rfl, rfl, h0, r0⟩ := trodAll_cons hA
  obtain ⟨v1, vs1, d1, ds1, p1, q1, rfl, rfl, rfl, h1, r1⟩ := trodAll_cons r0
  obtain ⟨rfl, rfl, rfl⟩ := trodAll_nil r1
  obtain rfl : args = #[v0, v1] := by cases args; simp_all
  obtain ⟨rfl, rfl⟩ := trodVars_none hV
  obtain ⟨a0, rfl, rfl, rfl, w0⟩ := open_string Yba.underlying9 (hval 0 9 v0 rfl rfl) h0
  obtain ⟨a1, rfl, rfl, rfl, w1⟩ := open_int Yba.underlying5 (hval 1 5 v1 rfl rfl) h1
  clear hA0 hval0
  simp only [List.append_nil] at hW'
  refine (walk a0 a1 w0 w1 W).mono fun e W' ⟨he, hg⟩ => ?_
  subst he
  exact ⟨_, rfl, post_of_same (pa := []) (pv := []) hW' (fun _ _ _ => (trodAll_cons_mk (shut_bool Yba.underlying4 _) trodAll_mk0)) (fun sp _ => (trodAll_cons_mk (shut_string Yba.underlying9 w0) (trodAll_cons_mk (shut_int Yba.underlying5 w1) trodAll_mk0))) (fun _ _ => rfl) rfl
    (hg.frame _) hg.2.1 (ok_one (by kernel_rfl) rfl (okWide_bool_mk Yba.underlying4 _))⟩

theorem over : Rows.lawS1577CTextRow.holds Yba.pinned (OpenSpec.ofChange Rows.lawS1577CTextSpec) :=
  OpenClaim.holds_of_wide 7 Yba.f7 rfl rfl rfl rfl rfl rfl rfl ⟨rfl, rfl, rfl, rfl, rfl⟩ rfl rfl rfl rfl rfl (by kernel_rfl) Yba.func7 (by kernel_rfl)
    (of_decide_eq_true (by kernel_rfl)) (by unfold Func.isWrapper; first | (rw [if_pos (by decide +kernel)]; kernel_rfl) | (rw [if_neg (by decide +kernel)]; exact ⟨rfl, rfl⟩))
    (fun os started H enc _ => lifted os started H enc)

/-- ████ THE STATEMENT ████ -/
theorem proved : Rows.LawS1577CTextSaid :=
  over
end Go.Proofs.Ybulkafqe.lawS1577CText
