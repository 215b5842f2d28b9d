/-
  CONTRACT of slices.IndexFunc at the paths (19), over the method value of sameState.
-/
import Derived.Test.YbulkafpcSame

namespace Go.Proofs.Ybulkafpc
open Go.RowKit
def flat (L : List Tok) : List Value := L.flatMap tokCells
theorem flat_length (L : List Tok) : (flat L).length = L.length * 168 := by
  induction L with
  | nil => rfl
  | cons t L ih => simp [flat, List.flatMap_cons, tokCells_length] at ih ⊢; omega
theorem flat_at (L : List Tok) (j : Nat) (hj : j < L.length) : flat L = flat (L.take j) ++ (tokCells L[j] ++ flat (L.drop (j + 1))) := by
  have h : L.take j ++ L[j] :: L.drop (j + 1) = L := by simp
  have e : flat (L.take j ++ L[j] :: L.drop (j + 1)) = flat (L.take j) ++ (tokCells L[j] ++ flat (L.drop (j + 1))) := by
    unfold flat; rw [List.flatMap_append, List.flatMap_cons]
  rw [h] at e
  exact e
theorem flat_range {w : World} {g : Nat} {T : TypeId} {L : List Tok} (hb : Blk w g T (flat L)) (j : Nat) (hj : j < L.length) (o : Nat) (ho : o = j * 168) : w.rangeAt g o (tokCells L[j]) := by
  subst ho
  exact hb.range (flat_at L j hj) (by rw [flat_length, List.length_take]; congr 1; omega)
/-- names within the table -/
def Good (t : Tok) : Prop := t.tg < 3 ∧ t.tree.point < 3
/-- the first of the first m paths that is alike -/
def findAt (t : Tok) (L : List Tok) (m : Nat) : Option Nat := (L.take m).findIdx? (alike t)
def idxInt : Option Nat → Int
  | some i => i
  | none => -1
theorem findAt_some {t : Tok} {L : List Tok} {m j : Nat} (hj : j < m) (hm : m ≤ L.length) (hno : ∀ k (_ : k < j) (hL : k < L.length), alike t L[k] = false) (h : alike t (L[j]'(by omega)) = true) : findAt t L m = some j := by
  unfold findAt
  rw [List.findIdx?_eq_some_iff_getElem]
  refine ⟨by rw [List.length_take]; omega, by simpa using h, fun k hk => ?_⟩
  have := hno k hk (by omega)
  simp [this]
theorem findAt_none {t : Tok} {L : List Tok} {m : Nat} (hm : m ≤ L.length) (hno : ∀ k (_ : k < m) (hL : k < L.length), alike t L[k] = false) : findAt t L m = none := by
  unfold findAt
  rw [List.findIdx?_eq_none_iff]
  intro x hx
  obtain ⟨k, hk, rfl⟩ := List.getElem_of_mem hx
  have hk' : k < m := by rw [List.length_take] at hk; omega
  have := hno k hk' (by omega)
  simpa using this
set_option maxHeartbeats 1000000 in
set_option maxRecDepth 10000 in
theorem indexFunc_any (g m cap b : Nat) (L : List Tok) (t : Tok) (hm : m ≤ L.length) (hL : L.length ≤ 256) (hG : ∀ u ∈ L, Good u) (ht : Good t) (w : World) (hb : Blk w g 60 (flat L)) (hr : w.rangeAt b 0 (tokCells t)) :
    Calls Yba.prog 19 #[.slice (some ⟨g, 0, none⟩) m cap, .func (.func 20) #[.pointer (some ⟨b, 0, none⟩)] #[]] w fun e w' => e = .returned (.int .i64 (idxInt (findAt t L m))) ∧ Below w.heap.size w w' := by
  go_enter Yba.func19, Yba.ntmps19
  go_wp2
  go_loopw [8] (fun i w' => ∃ j : Nat, j ≤ m ∧ i = .int .i64 j ∧ (∀ k (hk : k < j) (hL : k < L.length), alike t L[k] = false) ∧ Below w.heap.size w w') (fun i _ => m - (intOf i).toNat)
  case atStart => exact ⟨0, Nat.zero_le _, rfl, fun k hk => absurd hk (Nat.not_lt_zero k), Below.refl _ _⟩
  case round =>
    obtain ⟨j, hj, rfl, hno, hbel⟩ := hrel
    by_cases hlt : j < m
    · have hjL : j < L.length := by omega
      have hrg : wr.rangeAt g (j * 168) (tokCells L[j]) := flat_range (hb.old hbel) j hjL _ rfl
      have hG2 := hG L[j] (List.getElem_mem hjL)
      have hss := sameState_any b 0 t L[j] ht.1 hG2.1 hG2.2 wr (range_old hr hbel)
      generalize hal : alike t L[j] = al at hss
      have Hno : Hid (∀ k (hk : k < j) (hL : k < L.length), alike t L[k] = false) := hno
      have Hal : Hid (alike t L[j] = al) := hal
      clear hno hal
      cases al
      · go_wp2_with (first
          | (refine wpList_load_blk (by rfl) 60 _ (by rfl) g (j * 168) (by rfl) (tokCells L[j]) _ hrg Yba.underlying60 rfl (size60 _) ?_)
          | (go_at_call 20; refine hss.mono ?_; rintro e w2 ⟨rfl, b2⟩))
        go_roundw
        case rel =>
          refine ⟨j + 1, by omega, by go_num, ?_, hbel.trans (b2.mono hbel.size)⟩
          intro k hk hL
          rcases Nat.lt_or_ge k j with h | h
          · exact Hno.out k h hL
          · obtain rfl : k = j := by omega
            exact Hal.out
        case measure => simp [intOf]; omega
      · go_wp2_with (first
          | (refine wpList_load_blk (by rfl) 60 _ (by rfl) g (j * 168) (by rfl) (tokCells L[j]) _ hrg Yba.underlying60 rfl (size60 _) ?_)
          | (go_at_call 20; refine hss.mono ?_; rintro e w2 ⟨rfl, b2⟩))
        go_ret
        rw [findAt_some hlt hm Hno.out Hal.out]
        exact ⟨rfl, hbel.trans (b2.mono hbel.size)⟩
    · obtain rfl : j = m := by omega
      have Hno : Hid (∀ k (hk : k < j) (hL : k < L.length), alike t L[k] = false) := hno
      clear hno
      go_wp2
      go_ret
      rw [findAt_none hm Hno.out]
      exact ⟨rfl, hbel⟩
end Go.Proofs.Ybulkafpc
