/-
  PROOF OF 'Rows.LawS1575CExactSaid': the argument opened (a slice of structs of fourteen cells: eleven bytes, three truths); the walk by YbulkafpcLaw; the frame by the guide's skeleton (its 'Below' form).
-/
import Derived.Test.YbulkafpcRows
import Derived.Test.YbulkafpcLaw
import Derived.ChangeOld
import Derived.Below
import Derived.Carry
import Derived.WalkKit
import Derived.ProofKit
import Derived.OpenShut
import Derived.Deep.Slices
import Derived.ChangeArms
namespace Go.Proofs.Ybulkafpc.lawS1575CExact
open Go.ChangeShapes Go.WideShapes Go.ChangeAt Go.RowKit
open Go.Deep (open_slice)
theorem cells47 : Yba.prog.cellsOf 47 = 14 := by kernel_rfl
theorem cells5 : Yba.prog.cellsOf 5 = 1 := by kernel_rfl
theorem cells4 : Yba.prog.cellsOf 4 = 1 := by kernel_rfl
section
variable {H : Type} {enc : TypeId × Value → H} {w : World} {base : Nat} {spare : Nat → Bool} {held : Bool}
theorem cell_u8 {k : Nat} {c : Value} {y : Option (DataW H × List MemPlace)} (hy : y.isSome = true) (h : DataW.trod enc Yba.prog w base spare held k 5 [c] = y) : ∃ x : Int, c = .int .u8 x ∧ u8 x := by
  obtain ⟨z, rfl⟩ := Option.isSome_iff_exists.1 hy
  obtain ⟨n', h1, _, hw⟩ := DataW.trod_int Yba.underlying5 h
  simp only [List.cons.injEq, and_true] at h1
  refine ⟨n', h1, ?_⟩
  have hb := bounds_u8 hw
  unfold u8
  omega
theorem cell_bool {k : Nat} {c : Value} {y : Option (DataW H × List MemPlace)} (hy : y.isSome = true) (h : DataW.trod enc Yba.prog w base spare held k 4 [c] = y) : ∃ x : Bool, c = .bool x := by
  obtain ⟨z, rfl⟩ := Option.isSome_iff_exists.1 hy
  obtain ⟨n', h1, _⟩ := DataW.trod_bool Yba.underlying4 h
  simp only [List.cons.injEq, and_true] at h1
  exact ⟨n', h1⟩
theorem open_path {k : Nat} {cs : List Value} {x : DataW H × List MemPlace} (h : DataW.trod enc Yba.prog w base spare held k 47 cs = some x) : ∃ p : Path, p.ok ∧ cs = pcells p := by
  obtain ⟨xs, n, _, _, hl, hlen, hf⟩ := DataW.trod_struct Yba.underlying47 h
  rw [cells47] at hl
  have hs : ∀ i, i < 14 → (xs[i]?).isSome = true := fun i hi => by
    have h14 : xs.length = 14 := hlen
    rw [List.getElem?_eq_getElem (by omega)]; rfl
  match cs, hl with
  | [c0, c1, c2, c3, c4, c5, c6, c7, c8, c9, c10, c11, c12, c13], _ =>
    have t0 := hf 0
    simp [cells5] at t0
    obtain ⟨x0, rfl, o0⟩ := cell_u8 (hs 0 (by omega)) t0
    have t1 := hf 1
    simp [cells5] at t1
    obtain ⟨x1, rfl, o1⟩ := cell_u8 (hs 1 (by omega)) t1
    have t2 := hf 2
    simp [cells5] at t2
    obtain ⟨x2, rfl, o2⟩ := cell_u8 (hs 2 (by omega)) t2
    have t3 := hf 3
    simp [cells5] at t3
    obtain ⟨x3, rfl, o3⟩ := cell_u8 (hs 3 (by omega)) t3
    have t4 := hf 4
    simp [cells5] at t4
    obtain ⟨x4, rfl, o4⟩ := cell_u8 (hs 4 (by omega)) t4
    have t5 := hf 5
    simp [cells5] at t5
    obtain ⟨x5, rfl, o5⟩ := cell_u8 (hs 5 (by omega)) t5
    have t6 := hf 6
    simp [cells5] at t6
    obtain ⟨x6, rfl, o6⟩ := cell_u8 (hs 6 (by omega)) t6
    have t7 := hf 7
    simp [cells5] at t7
    obtain ⟨x7, rfl, o7⟩ := cell_u8 (hs 7 (by omega)) t7
    have t8 := hf 8
    simp [cells5] at t8
    obtain ⟨x8, rfl, o8⟩ := cell_u8 (hs 8 (by omega)) t8
    have t9 := hf 9
    simp [cells5] at t9
    obtain ⟨x9, rfl, o9⟩ := cell_u8 (hs 9 (by omega)) t9
    have t10 := hf 10
    simp [cells5] at t10
    obtain ⟨x10, rfl, o10⟩ := cell_u8 (hs 10 (by omega)) t10
    have t11 := hf 11
    simp [cells4] at t11
    obtain ⟨x11, rfl⟩ := cell_bool (hs 11 (by omega)) t11
    have t12 := hf 12
    simp [cells4] at t12
    obtain ⟨x12, rfl⟩ := cell_bool (hs 12 (by omega)) t12
    have t13 := hf 13
    simp [cells4] at t13
    obtain ⟨x13, rfl⟩ := cell_bool (hs 13 (by omega)) t13
    exact ⟨⟨x0, x1, x2, x3, x4, x5, x6, x7, x8, x9, x10, x11, x12, x13⟩, ⟨o0, o1, o2, o3, o4, o5, o6, o7, o8, o9, o10⟩, rfl⟩
/-- the whole argument: no path at all, or a row of paths -/
theorem open_paths {t : Option Addr} {len cap : Nat} {d : DataW H} {ps : List MemPlace} (h : DataW.Trod enc Yba.prog w base spare held 41 (.slice t len cap) d ps) (hpos : 1 ≤ len) :
    ∃ (b o : Nat) (P : Nat → Path), t = some ⟨b, o, none⟩ ∧ (∀ i, (P i).ok) ∧ Args P len w b o := by
  obtain ⟨fuel, h⟩ := h
  rcases open_slice Yba.underlying41 h with ⟨hc, -⟩ | ⟨a, len', cap', m, n, D, Pl, hc, -, hl, -, hm, -, hx⟩
  · have hc' : Value.slice t len cap = .slice none 0 0 := by simpa [Value.cells] using hc
    cases hc'
    omega
  · have hc' : Value.slice t len cap = .slice (some a) len' cap' := by simpa [Value.cells] using hc
    cases hc'
    rw [cells47] at hx
    have hml : len ≤ m := by rw [hm]; split <;> omega
    have hall : ∀ i, ∃ p : Path, p.ok ∧ (i < len → ∀ k, k < 14 → w.cell? ((a.add (i * 14)).add k) = (pcells p)[k]?) := by
      intro i
      by_cases hi : i < len
      · obtain ⟨cs', h1, h2⟩ := hx i (by omega)
        obtain ⟨p, hp, rfl⟩ := open_path h2
        exact ⟨p, hp, fun _ => (World.cells?_some h1).2.2⟩
      · exact ⟨z0p, by simp [Path.ok, u8, z0p], fun h => absurd h hi⟩
    obtain ⟨b, o, spot⟩ := a
    have hspot : spot = none := by
      obtain ⟨p, -, h0⟩ := hall 0
      have h00 := h0 (by omega) 0 (by omega)
      have h01 : w.cell? ((Addr.add ⟨b, o, spot⟩ (0 * 14)).add 0) = some (.int .u8 p.st) := h00
      simpa [Addr.add] using World.cell?_spot h01
    subst hspot
    obtain ⟨P, hP⟩ := Classical.axiomOfChoice hall
    refine ⟨b, o, P, rfl, fun i => (hP i).1, ?_⟩
    intro i hi k v hv
    have hk : k < 14 := (List.getElem?_eq_some_iff.1 hv).1
    have := (hP i).2 hi k hk
    rw [Addr.add_mid, Addr.add_mid] at this
    rw [this]
    exact hv
end

theorem own : ownKnob Yba.prog.godebug = none := by kernel_rfl
theorem laidOut : laidOutB Yba.prog = true := by kernel_rfl

/-! ### THE WALK -/
theorem walk {H : Type} {enc : TypeId × Value → H} {t : Option Addr} {len cap : Nat} {d : DataW H} {ps : List MemPlace} (w : World) (h : DataW.Trod enc Yba.prog w 0 (fun _ => true) true 41 (.slice t len cap) d ps) :
    Calls Yba.prog 5 #[.slice t len cap] w fun e w' => e = .returned (.bool true) ∧ Below w.heap.size w w' := by
  by_cases h0 : len = 0
  · subst h0
    exact law_none t cap w
  · by_cases h1 : 256 < len
    · exact law_long t len cap h1 w
    · obtain ⟨b, o, P, rfl, hok, hA⟩ := open_paths h (by omega)
      exact law_main b o len cap P hok (by omega) (by omega) w hA

/-! ### THE ROW's STEP -/
set_option maxRecDepth 100000 in
theorem lifted (os : Os) (started : os.Started) (H : Type) (enc : TypeId × Value → H) :
    ReturnsInHanded {} Yba.checked os 5 .any (Rows.lawS1575CExactSpec.pre6 enc Yba.prog Yba.f5 Rows.lawS1575CExactRow.domain false) (Rows.lawS1575CExactSpec.post enc Yba.prog Yba.f5 false true false false) := by
  refine returnsInHanded_of_change (C := Yba.checked) own started (by kernel_rfl) Yba.func5
    (ChangeSpec.witness6 (enc := enc) (C := Yba.checked) false ⟨#[], #[.slice none 0 0], []⟩ 8 (by kernel_rfl) (by kernel_rfl) (by kernel_rfl) (by kernel_rfl)) ?_
  intro W base args ds gs before hval0 hW hcnd _
  have hval : ∀ (j : Nat) t v, Yba.f5.params[j]? = some t → args[j]? = some v → Value.okWide Yba.prog W .any base t v := hval0
  have hW' := hW
  obtain ⟨p, q, hA0, hV, rfl, hfz, hnd⟩ := hW
  have hA : DataW.TrodAll enc Yba.prog W 0 (fun _ => true) true Yba.f5.params.toList args.toList ds p := hA0
  rw [Yba.params5] at hA hval
  obtain ⟨v0, vs0, d0, ds0, p0, q0, hargs, rfl, rfl, h0, r0⟩ := trodAll_cons hA
  obtain ⟨rfl, rfl, rfl⟩ := trodAll_nil r0
  obtain rfl : args = #[v0] := by cases args; simp_all
  obtain ⟨rfl, rfl⟩ := trodVars_none hV
  obtain ⟨t, len, cap, rfl⟩ := okWide_slice Yba.underlying41 (hval 0 41 v0 rfl rfl)
  clear hA0 hval0
  simp only [List.append_nil] at hW'
  have hlt : ∀ x ∈ p0, x.block < W.heap.size := fun x hx => by simpa using hW'.lt x hx
  refine (walk W h0).mono fun e W' ⟨he, bel⟩ => ?_
  subst he
  exact ⟨_, rfl, _, _, _, [], _, [], hW', trodAll_mk1 (shut_bool Yba.underlying4 _), trodAll_mk1 (Below.trod laidOut (by kernel_rfl) (of_decide_eq_true (by kernel_rfl)) h0 bel hlt), rfl, bel.frame _, fun h => by cases h⟩

theorem over : Rows.lawS1575CExactRow.holds Yba.pinned (OpenSpec.ofChange Rows.lawS1575CExactSpec) :=
  OpenClaim.holds_of_wide 5 Yba.f5 rfl rfl rfl rfl rfl rfl rfl ⟨rfl, rfl, rfl, rfl, rfl⟩ rfl rfl rfl rfl rfl (by kernel_rfl) Yba.func5 (by kernel_rfl)
    (of_decide_eq_true (by kernel_rfl)) (by unfold Func.isWrapper; first | (rw [if_pos (by decide +kernel)]; kernel_rfl) | (rw [if_neg (by decide +kernel)]; exact ⟨rfl, rfl⟩))
    (fun os started H enc _ => lifted os started H enc)

/-- ████ THE STATEMENT ████ -/
theorem proved : Rows.LawS1575CExactSaid :=
  over
end Go.Proofs.Ybulkafpc.lawS1575CExact
