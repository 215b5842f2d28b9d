/-
  PROOF OF 'Rows.LawS1577BJoinSaid': the frame by the guide's skeleton tool; the walk by the contracts of YbulkafqeRefs, YbulkafqeRefs2.
-/
import Derived.Test.YbulkafqeRows
import Derived.Test.YbulkafqeRefs2
import Derived.WalkSpells
import Derived.Deep.RegionWith
import Derived.Deep.DrawnRows
import Derived.WalkKit
import Derived.ProofKit
import Derived.OpenShut
import Derived.ShutString
namespace Go.Proofs.Ybulkafqe.lawS1577BJoin
open Go.ChangeShapes Go.WideShapes Go.ChangeAt Go.RowKit
open Go.ChangeMaps (open_string shut_string)
set_option linter.unusedVariables false      -- a walk need not use every 'w<i>' (that an integer argument fits its kind)

theorem own : ownKnob Yba.prog.godebug = none := by kernel_rfl

attribute [local go_sem ↓] Go.wp_at_zero Go.wp_at_succ
set_option maxHeartbeats 1000000 in
theorem join_none (p s : ByteArray) (hp : p.size ≤ 255) (hs : s.size ≤ 4096) (w : World) :
    Calls Yba.prog 4 #[.string ByteArray.empty, .string p, .string s] w fun e w' => e = .returned (.bool true) ∧ Grown w w' := by
  go_enter Yba.func4, Yba.ntmps4
  go_wp2_with fail
  refine (domain_none _ _ _ _ ?_ ?_ ?_ ?_ _).mono ?_
  · omega
  · omega
  · omega
  · omega
  rintro e w' ⟨rfl, rfl⟩
  go_wp2_with fail
  refine (build_none p s hp hs _).mono ?_
  rintro e w1 ⟨rfl, hg⟩
  go_wp2_with fail
  refine (domain_none _ _ _ _ ?_ ?_ ?_ ?_ _).mono ?_
  · omega
  · omega
  · omega
  · omega
  rintro e w' ⟨rfl, rfl⟩
  go_wp2_with fail
  go_region_with (first
    | (go_at_call 10; refine (name_any _ _ _ _ (by omega) (by simp; omega) _).mono ?_; rintro e w' ⟨rfl, rfl⟩)
    | (go_at_call 11; refine (path_any _ _ _ _ (by omega) (by omega) (by omega) (by simp; omega) (by simp; omega) _).mono ?_; rintro e w' ⟨rfl, rfl⟩))
  all_goals
    go_wp2
    go_ret
    refine ⟨rfl, ?_⟩
    repeat (first | exact grown_trans ((Grown.refl _).alloc _ _) hg | apply Grown.alloc | apply Grown.drew)

set_option maxHeartbeats 1000000 in
theorem join_some (d p s : ByteArray) (hd0 : d.toList.isEmpty = false) (hd1 : 0 < d.size) (hd : d.size ≤ 4096) (hp : p.size ≤ 255) (hs : s.size ≤ 4096) (w : World) :
    Calls Yba.prog 4 #[.string d, .string p, .string s] w fun e w' => e = .returned (.bool true) ∧ Grown w w' := by
  go_enter Yba.func4, Yba.ntmps4
  go_wp2_with fail
  refine (domain_none _ _ _ _ ?_ ?_ ?_ ?_ _).mono ?_
  · omega
  · omega
  · omega
  · omega
  rintro e w' ⟨rfl, rfl⟩
  go_wp2_with fail
  refine (build_some d p s hd0 hd hp hs _).mono ?_
  rintro e w1 ⟨rfl, hg⟩
  go_wp2_with fail
  refine (domain_ref d p s hd1 hd hp hs _).mono ?_
  rintro e w' ⟨rfl, rfl⟩
  go_wp2_with fail
  go_region_with (first
    | (go_at_call 10; refine (name_ref d p s hd hp _).mono ?_; rintro e w' ⟨rfl, rfl⟩)
    | (go_at_call 11; refine (path_ref d p s hd hp hs _).mono ?_; rintro e w' ⟨rfl, rfl⟩))
  all_goals
    go_wp2
    go_ret
    refine ⟨rfl, ?_⟩
    repeat (first | exact grown_trans ((Grown.refl _).alloc _ _) hg | apply Grown.alloc | apply Grown.drew)
set_option maxHeartbeats 400000 in
theorem join_long (d p s : ByteArray) (wd : d.size ≤ maxLen) (wp : p.size ≤ maxLen) (ws : s.size ≤ maxLen) (h : 255 < p.size ∨ 4096 < d.size ∨ 4096 < s.size) (w : World) :
    Calls Yba.prog 4 #[.string d, .string p, .string s] w fun e w' => e = .returned (.bool true) ∧ Grown w w' := by
  unfold maxLen at wd wp ws
  by_cases h1 : 255 < p.size
  · go_enter Yba.func4, Yba.ntmps4
    go_wp2_with fail
    go_ret
    exact ⟨rfl, Grown.refl _⟩
  · by_cases h2 : 4096 < d.size
    · go_enter Yba.func4, Yba.ntmps4
      go_wp2_with fail
      go_ret
      exact ⟨rfl, Grown.refl _⟩
    · have h3 : 4096 < s.size := by omega
      clear h
      go_enter Yba.func4, Yba.ntmps4
      go_wp2_with fail
      go_ret
      exact ⟨rfl, Grown.refl _⟩

/-! ### STEP 1: THE WALK: the Go text returns true. 'Grown w w'': the world has at most new blocks (Derived/RowKit3.lean). Part the cases AHEAD of 'go_enter' where a test parts the walk; take each callee by a contract of your own. -/
theorem walk (a0 : ByteArray) (a1 : ByteArray) (a2 : ByteArray) (w0 : a0.size ≤ maxLen) (w1 : a1.size ≤ maxLen) (w2 : a2.size ≤ maxLen) (w : World) :
    Calls Yba.prog 4 #[.string a0, .string a1, .string a2] w fun e w' => e = .returned (.bool true) ∧ Grown w w' := by
  by_cases h : 255 < a1.size ∨ 4096 < a0.size ∨ 4096 < a2.size
  · exact join_long a0 a1 a2 w0 w1 w2 h w
  · by_cases hd : a0 = ByteArray.empty
    · subst hd
      exact join_none a1 a2 (by omega) (by omega) w
    · obtain ⟨e0, e1⟩ := not_empty a0 hd
      exact join_some a0 a1 a2 e0 e1 (by omega) (by omega) (by omega) w

/-! ### THE ROW's STEP: WRITTEN OUT: LEAVE IT -/
set_option maxRecDepth 100000 in
theorem lifted (os : Os) (started : os.Started) (H : Type) (enc : TypeId × Value → H) :
    ReturnsInHanded {} Yba.checked os 4 .any (Rows.lawS1577BJoinSpec.pre6 enc Yba.prog Yba.f4 Rows.lawS1577BJoinRow.domain false) (Rows.lawS1577BJoinSpec.post enc Yba.prog Yba.f4 false true false false) := by
  refine returnsInHanded_of_change (C := Yba.checked) own started (by kernel_rfl) Yba.func4
    (ChangeSpec.witness6 (enc := enc) (C := Yba.checked) false ⟨#[], #[.string ByteArray.empty, .string ByteArray.empty, .string ByteArray.empty], []⟩ 8 (by kernel_rfl) (by kernel_rfl) (by kernel_rfl) (by kernel_rfl)) ?_
  intro W base args ds gs before hval0 hW hcnd _
  have hval : ∀ (j : Nat) t v, Yba.f4.params[j]? = some t → args[j]? = some v → Value.okWide Yba.prog W .any base t v := hval0
  have hW' := hW
  obtain ⟨p, q, hA0, hV, rfl, hfz, hnd⟩ := hW
  have hA : DataW.TrodAll enc Yba.prog W 0 (fun _ => true) true Yba.f4.params.toList args.toList ds p := hA0
  rw [Yba.params4] at hA hval
  obtain ⟨v0, vs0, d0, ds0, p0, q0, hargs, rfl, rfl, h0, r0⟩ := trodAll_cons hA
  obtain ⟨v1, vs1, d1, ds1, p1, q1, rfl, rfl, rfl, h1, r1⟩ := trodAll_cons r0
  obtain ⟨v2, vs2, d2, ds2, p2, q2, rfl, rfl, rfl, h2, r2⟩ := trodAll_cons r1
  obtain ⟨rfl, rfl, rfl⟩ := trodAll_nil r2
  obtain rfl : args = #[v0, v1, v2] := by cases args; simp_all
  obtain ⟨rfl, rfl⟩ := trodVars_none hV
  obtain ⟨a0, rfl, rfl, rfl, w0⟩ := open_string Yba.underlying9 (hval 0 9 v0 rfl rfl) h0
  obtain ⟨a1, rfl, rfl, rfl, w1⟩ := open_string Yba.underlying9 (hval 1 9 v1 rfl rfl) h1
  obtain ⟨a2, rfl, rfl, rfl, w2⟩ := open_string Yba.underlying9 (hval 2 9 v2 rfl rfl) h2
  clear hA0 hval0
  simp only [List.append_nil] at hW'
  refine (walk a0 a1 a2 w0 w1 w2 W).mono fun e W' ⟨he, hg⟩ => ?_
  subst he
  exact ⟨_, rfl, post_of_same (pa := []) (pv := []) hW' (fun _ _ _ => (trodAll_cons_mk (shut_bool Yba.underlying4 _) trodAll_mk0)) (fun sp _ => (trodAll_cons_mk (shut_string Yba.underlying9 w0) (trodAll_cons_mk (shut_string Yba.underlying9 w1) (trodAll_cons_mk (shut_string Yba.underlying9 w2) trodAll_mk0)))) (fun _ _ => rfl) rfl
    (hg.frame _) hg.2.1 (ok_one (by kernel_rfl) rfl (okWide_bool_mk Yba.underlying4 _))⟩

theorem over : Rows.lawS1577BJoinRow.holds Yba.pinned (OpenSpec.ofChange Rows.lawS1577BJoinSpec) :=
  OpenClaim.holds_of_wide 4 Yba.f4 rfl rfl rfl rfl rfl rfl rfl ⟨rfl, rfl, rfl, rfl, rfl⟩ rfl rfl rfl rfl rfl (by kernel_rfl) Yba.func4 (by kernel_rfl)
    (of_decide_eq_true (by kernel_rfl)) (by unfold Func.isWrapper; first | (rw [if_pos (by decide +kernel)]; kernel_rfl) | (rw [if_neg (by decide +kernel)]; exact ⟨rfl, rfl⟩))
    (fun os started H enc _ => lifted os started H enc)

/-- ████ THE STATEMENT ████ -/
theorem proved : Rows.LawS1577BJoinSaid :=
  over
end Go.Proofs.Ybulkafqe.lawS1577BJoin
