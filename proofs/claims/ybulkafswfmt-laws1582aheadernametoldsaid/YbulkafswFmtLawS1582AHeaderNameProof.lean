/-
  PROOF OF 'Rows.LawS1582AHeaderNameToldSaid': the told card, by the guide's builder 'Claim7.holds_of_told_any'; the walks: YbulkafswFmtWalks. fmt's text is not looked at: whatever it is, the law answers true.
-/
import Derived.Test.YbulkafswFmtCards
import Derived.Test.YbulkafswFmtWalks
import Derived.ProofKit
import Derived.ChangeSlices
import Derived.ChangeSame
import Derived.ChangeMaps5
import Derived.JoinedOf
import Derived.Carry
import Derived.OpenShut
import Derived.SliceStrings
import Derived.Stop.JoinedAt
import Derived.Stop.Texts
import Derived.Stop.JoinedTold
import Derived.SevenToldRow
namespace Go.Proofs.YbulkafswFmt.lawS1582AHeaderName
open Go.ChangeShapes Go.WideShapes Go.ChangeAt Go.RowKit Go.Kit
open Go.Extern.Stop Go.Stop Go.Extern

theorem own : ownKnob Ybaf.prog.godebug = none := by kernel_rfl
theorem laidOut : laidOutB Ybaf.pinned.checked.prog = true := by kernel_rfl
theorem cells9 : Ybaf.prog.cellsOf 9 = 1 := by kernel_rfl

/-- every way of the law, a slice that is not nil -/
theorem walk_some (F : Interp) (a : Addr) (len cap : Nat) (ss : List ByteArray) (hl : len ≤ cap) (hm : cap ≤ maxLen) (hn : ss.length = cap) (u : Int) (hu0 : 0 ≤ u) (hu1 : u ≤ 18446744073709551615) (w : World) (hF : F.answers w.tape)
    (hcell : ∀ i, i < ss.length → w.cell? (a.add i) = some (.string (ss.getD i ByteArray.empty))) :
    Calls Ybaf.prog 3 #[.slice (some a) len cap, .int .u64 u] w fun e w' => e = .returned (.bool true) ∧ Below w.heap.size w w' := by
  by_cases hlong : 1024 < len
  · exact law_long a len cap u hlong (Nat.le_trans hl hm) w
  · have hlen : (ss.take len).length = len := by rw [List.length_take]; omega
    have hc : ∀ j v, ((ss.take len).map Value.string)[j]? = some v → w.cell? (a.add j) = some v := by
      intro j v hj
      rw [List.getElem?_map] at hj
      obtain ⟨z, hz1, rfl⟩ := Option.map_eq_some_iff.1 hj
      have hjl : j < len := by
        have := (List.getElem?_eq_some_iff.1 hz1).1
        omega
      rw [hcell j (by omega)]
      rw [List.getElem?_take_of_lt hjl] at hz1
      simp [List.getD, hz1]
    have hI0 : 0 ≤ u % ((len : Int) + 3) := Int.emod_nonneg _ (by omega)
    have hI1 : u % ((len : Int) + 3) < (len : Int) + 3 := Int.emod_lt_of_pos _ (by omega)
    generalize ss.take len = zs at hlen hc
    subst hlen
    by_cases hge : (zs.length : Int) ≤ u % ((zs.length : Int) + 3)
    · exact law_past F a cap zs u _ hu0 hu1 (by omega) w hF hc rfl hI0 hI1 hge
    · have hlt : (u % ((zs.length : Int) + 3)).toNat < zs.length := by omega
      obtain ⟨s, hs⟩ : ∃ s, zs[(u % ((zs.length : Int) + 3)).toNat]? = some s := ⟨_, List.getElem?_eq_getElem hlt⟩
      obtain ⟨b, off, spot⟩ := a
      have hspot : spot = none := by
        have hz0 : zs[0]? = some (zs[0]'(by omega)) := List.getElem?_eq_getElem (by omega)
        have h0 := hc 0 _ (by rw [List.getElem?_map, hz0]; rfl)
        simpa [Addr.add] using World.cell?_spot h0
      subst hspot
      by_cases he : s = ByteArray.empty
      · exact law_empty F b off cap zs u _ hu0 hu1 (by omega) w hF hc rfl hI0 hI1 s he hs
      · refine law_name F b off cap zs u _ hu0 hu1 (by omega) w hF hc rfl hI0 hI1 s ?_ hs
        rw [Go.ByteArray.toList_eq]
        cases hd : s.data.toList with
        | nil =>
          refine absurd ?_ he
          apply ByteArray.ext
          apply Array.toList_inj.1
          rw [hd]; rfl
        | cons x l => rfl

set_option maxRecDepth 100000 in
theorem lifted (os : Os) (started : os.Started) (H : Type) (enc : TypeId × Value → H) :
    ReturnsInTold none {} Ybaf.checked os 3 .any Input.okWide ((OpenSpec.ofChange Rows.lawS1582AHeaderNameSpec).preRow enc Ybaf.prog Ybaf.f3 [] false []) (fun F => ((OpenSpec.ofChange Rows.lawS1582AHeaderNameSpec).at F).post enc Ybaf.prog Ybaf.f3 false true false false) (aloneAtReturn Ybaf.prog) nothingAlways := by
  refine returnsInTold_of_row (C := Ybaf.checked) (s := OpenSpec.ofChange Rows.lawS1582AHeaderNameSpec) (by kernel_rfl) own started (by kernel_rfl) Ybaf.func3
    (OpenSpec.witness_stopped (enc := enc) (C := Ybaf.checked) false ⟨#[], #[.slice none 0 0, .int .u64 0], []⟩ 8 (by kernel_rfl) (by kernel_rfl) (by kernel_rfl) (by kernel_rfl)) ?_
  intro F W base args ds gs before _ hF hval0 hW _ _ _ _ _
  have hval : ∀ (j : Nat) t v, Ybaf.f3.params[j]? = some t → args[j]? = some v → Value.okWide Ybaf.prog W .any base t v := hval0
  have hW' := hW
  obtain ⟨p, q, hA0, hV, rfl, _, _⟩ := hW
  have hA : DataW.TrodAll enc Ybaf.prog W 0 (fun _ => true) true Ybaf.f3.params.toList args.toList ds p := hA0
  rw [Ybaf.params3] at hA hval
  obtain ⟨v0, v1, d0, d1, p0, p1, rfl, rfl, rfl, h0, h1⟩ := trodAll_two hA
  obtain ⟨rfl, rfl⟩ := trodVars_none hV
  obtain ⟨u, rfl, rfl, rfl, wu⟩ := open_int Ybaf.underlying23 (hval 1 23 v1 rfl rfl) h1
  obtain ⟨a0, len, cap, rfl⟩ := okWide_slice Ybaf.underlying22 (hval 0 22 v0 rfl rfl)
  have h0k := h0
  obtain ⟨fuel, hf⟩ := h0
  clear hA0 hval0
  simp only [List.append_nil] at hW'
  obtain ⟨u0, u1⟩ := bounds_u64 wu
  have hlt : ∀ x ∈ p0, x.block < W.heap.size := DataW.trod_lt fuel _ _ _ hf
  have hwalk : Calls Ybaf.prog 3 #[.slice a0 len cap, .int .u64 u] W fun e w' => e = .returned (.bool true) ∧ Below W.heap.size W w' := by
    rcases open_strings Ybaf.underlying22 Ybaf.underlying9 cells9 hf with ⟨hcs, _⟩ | ⟨a, len', cap', ss, hcs, _, hl, hm, hz, _, hcell, _⟩
    · simp [Value.cells] at hcs
      obtain ⟨rfl, rfl, rfl⟩ := hcs
      exact law_nil F.told u _ u0 u1 W hF rfl (Int.emod_nonneg _ (by omega)) (Int.emod_lt_of_pos _ (by omega))
    · simp [Value.cells] at hcs
      obtain ⟨rfl, rfl, rfl⟩ := hcs
      simp only [if_true] at hz
      exact walk_some F.told a len cap ss hl hm hz u u0 u1 W hF hcell
  refine hwalk.mono fun e W' ⟨he, bel⟩ => ?_
  subst he
  exact ⟨_, rfl, _, _, _, [], _, [], hW', trodAll_mk1 (shut_bool Ybaf.underlying4 _), trodAll_mk2 (Below.trod laidOut (by kernel_rfl) (of_decide_eq_true (by kernel_rfl)) h0k bel hlt) (shut_int Ybaf.underlying23 wu), rfl, bel.frame _, fun h => by cases h⟩

theorem stops : Ybaf.pinned.checked.prog.stops = ["fmt.Sprintf"] := by kernel_rfl
theorem stopKnobs : Ybaf.pinned.checked.prog.stopKnobs = [] := by kernel_rfl
theorem quiet (os : Os) : Stop.quiet Ybaf.pinned.checked.prog os := by
  intro k hk
  rw [stopKnobs] at hk
  cases hk

/-- THE STATEMENT -/
theorem proved : Rows.LawS1582AHeaderNameToldSaid :=
  Claim7.holds_of_told_any (c := Rows.lawS1582AHeaderNameRow) 3 Ybaf.f3 "fmt.Sprintf" [] [] (true, "a26734b10d96b89676d9c146ac4b004b94dbba33f01a4b9d37c89833212e2571") true false (by kernel_rfl) rfl rfl rfl laidOut (by kernel_rfl) rfl ⟨rfl, rfl, rfl, rfl, rfl, rfl, rfl⟩ rfl rfl (by kernel_rfl) (by kernel_rfl) Ybaf.func3 (by kernel_rfl)
    (of_decide_eq_true (by kernel_rfl)) (of_decide_eq_true (by kernel_rfl)) stops.symm rfl stopKnobs.symm (by kernel_rfl)
    (by kernel_rfl) (by kernel_rfl) (by kernel_rfl) (by kernel_rfl) (by kernel_rfl) (by kernel_rfl) (by kernel_rfl) (by kernel_rfl) (by kernel_rfl) rfl (by kernel_rfl) rfl rfl
    rfl rfl
    rfl (by kernel_rfl) (by kernel_rfl) (by kernel_rfl) (by decide) (by kernel_rfl)
    (OpenClaim.moreEntering_of (by kernel_rfl) (by kernel_rfl) (by kernel_rfl) (by kernel_rfl) (by kernel_rfl) (by kernel_rfl) (by kernel_rfl) (by kernel_rfl) (by kernel_rfl) (by kernel_rfl))
    ⟨_, WideRow.started_initial, quiet _⟩
    (fun os started _ H enc _ => lifted os started H enc)
end Go.Proofs.YbulkafswFmt.lawS1582AHeaderName
