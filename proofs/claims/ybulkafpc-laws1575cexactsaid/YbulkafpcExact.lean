/-
  THE PLAIN LAW: what merge makes of the paths is what the law expects.
-/
import Derived.Test.YbulkafpcMerge
namespace Go.Proofs.Ybulkafpc

theorem psame_iff (a b : Path) : psame a b = true ↔ a.st % 3 = b.st % 3 ∧ a.tag % 3 = b.tag % 3 := by simp [psame]
def seen (P : Nat → Path) (i : Nat) : Bool := (List.range i).any fun j => psame (P j) (P i)
theorem seen_iff {P : Nat → Path} {i : Nat} : seen P i = true ↔ ∃ j, j < i ∧ psame (P j) (P i) = true := by simp [seen]
def acc (P : Nat → Path) : Nat → Nat → Tok
  | 0, i => mk (P i)
  | k + 1, i => if i < k ∧ psame (P k) (P i) = true then joinTok (acc P k i) (mk (P k)) else acc P k i
def firsts (P : Nat → Path) (k : Nat) : List Nat := (List.range k).filter fun i => !seen P i
def grp (P : Nat → Path) (k : Nat) : List Tok := (firsts P k).map (acc P k)
theorem acc_st (P : Nat → Path) (k i : Nat) : (acc P k i).st = (mk (P i)).st ∧ (acc P k i).tg = (mk (P i)).tg := by
  induction k with
  | zero => exact ⟨rfl, rfl⟩
  | succ k ih =>
    unfold acc
    split
    · exact ih
    · exact ih
theorem alike_acc {P : Nat → Path} (hok : ∀ i, (P i).ok) (k i : Nat) : alike (mk (P k)) (acc P k i) = psame (P k) (P i) := by
  rw [← psame_alike (hok k) (hok i)]
  unfold alike
  rw [(acc_st P k i).1, (acc_st P k i).2]
theorem mod_first {α β : Type} (a : α → β) (q : β → Bool) (f : β → β) : ∀ (I : List α), I.Pairwise (fun x y => ¬ (q (a x) = true ∧ q (a y) = true)) → (∃ x ∈ I, q (a x) = true) →
    ∃ idx, (I.map a).findIdx? q = some idx ∧ (I.map a).modify idx f = I.map (fun x => if q (a x) = true then f (a x) else a x)
  | [], _, h => by obtain ⟨x, hx, _⟩ := h; cases hx
  | x :: I, hp, h => by
    rw [List.pairwise_cons] at hp
    by_cases hx : q (a x) = true
    · refine ⟨0, by simp [List.findIdx?_cons, hx], ?_⟩
      simp only [List.map_cons, List.modify_zero_cons, hx, if_true]
      congr 1
      apply List.map_congr_left
      intro y hy
      have : ¬ q (a y) = true := fun e => hp.1 y hy ⟨hx, e⟩
      simp [this]
    · have hex : ∃ y ∈ I, q (a y) = true := by
        obtain ⟨y, hy, he⟩ := h
        rcases List.mem_cons.1 hy with rfl | hy
        · exact absurd he hx
        · exact ⟨y, hy, he⟩
      obtain ⟨idx, h1, h2⟩ := mod_first a q f I hp.2 hex
      refine ⟨idx + 1, by simp [List.findIdx?_cons, hx, h1], ?_⟩
      simp only [List.map_cons, List.modify_succ_cons, h2]
      simp [hx]
theorem first_same {P : Nat → Path} {k : Nat} (h : seen P k = true) : ∃ i, i < k ∧ psame (P i) (P k) = true ∧ seen P i = false := by
  rw [seen_iff] at h
  obtain ⟨j, hj, he⟩ := h
  induction j using Nat.strongRecOn with
  | _ j ih =>
    cases hs : seen P j with
    | false => exact ⟨j, hj, he, hs⟩
    | true =>
      rw [seen_iff] at hs
      obtain ⟨j', hj', he'⟩ := hs
      refine ih j' hj' (by omega) ?_
      rw [psame_iff] at *
      exact ⟨he'.1.trans he.1, he'.2.trans he.2⟩
theorem mem_firsts {P : Nat → Path} {k i : Nat} : i ∈ firsts P k ↔ i < k ∧ seen P i = false := by simp [firsts]
theorem firsts_succ (P : Nat → Path) (k : Nat) : firsts P (k + 1) = firsts P k ++ (if seen P k = true then [] else [k]) := by
  unfold firsts
  rw [List.range_succ, List.filter_append]
  congr 1
  by_cases h : seen P k = true <;> simp [h]
theorem acc_same (P : Nat → Path) (k i : Nat) (h : k ≤ i + 1) : acc P k i = mk (P i) := by
  induction k with
  | zero => rfl
  | succ k ih =>
    unfold acc
    rw [if_neg (by omega)]
    exact ih (by omega)
theorem mstep_grp {P : Nat → Path} (hok : ∀ i, (P i).ok) (k : Nat) : mstep (grp P k) (mk (P k)) = grp P (k + 1) := by
  by_cases hs : seen P k = true
  · obtain ⟨i, hi, he, hn⟩ := first_same hs
    have hpw : (firsts P k).Pairwise (fun x y => ¬ (alike (mk (P k)) (acc P k x) = true ∧ alike (mk (P k)) (acc P k y) = true)) := by
      have h0 : (firsts P k).Pairwise (· < ·) := List.Pairwise.filter _ List.pairwise_lt_range
      refine List.Pairwise.imp_of_mem ?_ h0
      intro x y hx hy hlt hxy
      rw [alike_acc hok, alike_acc hok, psame_iff, psame_iff] at hxy
      have hy' := (mem_firsts.1 hy).2
      have : seen P y = true := seen_iff.2 ⟨x, hlt, by rw [psame_iff]; exact ⟨hxy.1.1.symm.trans hxy.2.1, hxy.1.2.symm.trans hxy.2.2⟩⟩
      rw [hy'] at this; cases this
    obtain ⟨idx, h1, h2⟩ := mod_first (acc P k) (alike (mk (P k))) (joinTok · (mk (P k))) (firsts P k) hpw ⟨i, mem_firsts.2 ⟨hi, hn⟩, by
      rw [alike_acc hok, psame_iff]; rw [psame_iff] at he; exact ⟨he.1.symm, he.2.symm⟩⟩
    unfold mstep
    rw [show grp P k = (firsts P k).map (acc P k) from rfl, h1]
    show List.modify _ idx _ = _
    rw [h2]
    unfold grp
    rw [firsts_succ, if_pos hs, List.append_nil]
    apply List.map_congr_left
    intro x hx
    have hxk := (mem_firsts.1 hx).1
    rw [alike_acc hok]
    conv => rhs; unfold acc
    by_cases hp : psame (P k) (P x) = true
    · rw [if_pos hp, if_pos ⟨hxk, hp⟩]
    · rw [if_neg hp, if_neg (fun h => hp h.2)]
  · have hno : ∀ x, x < k → psame (P k) (P x) = false := by
      intro x hx
      cases hp : psame (P k) (P x) with
      | false => rfl
      | true =>
        exfalso
        apply hs
        rw [seen_iff]
        refine ⟨x, hx, ?_⟩
        rw [psame_iff] at *
        exact ⟨hp.1.symm, hp.2.symm⟩
    have hf : (grp P k).findIdx? (alike (mk (P k))) = none := by
      rw [List.findIdx?_eq_none_iff]
      intro t ht
      unfold grp at ht
      obtain ⟨x, hx, rfl⟩ := List.mem_map.1 ht
      rw [alike_acc hok]
      exact hno x (mem_firsts.1 hx).1
    unfold mstep
    rw [hf]
    show grp P k ++ _ = _
    unfold grp
    rw [firsts_succ, if_neg hs, List.map_append]
    congr 1
    · apply List.map_congr_left
      intro x hx
      have hxk := (mem_firsts.1 hx).1
      conv => rhs; unfold acc
      rw [if_neg (fun h => by rw [hno x hxk] at h; cases h.2)]
    · simp [acc_same]
theorem foldl_grp {P : Nat → Path} (hok : ∀ i, (P i).ok) (n : Nat) : ((List.range n).map fun i => mk (P i)).foldl mstep [] = grp P n := by
  induction n with
  | zero => rfl
  | succ n ih =>
    rw [List.range_succ, List.map_append, List.foldl_append, ih]
    exact mstep_grp hok n
theorem mrg_grp {P : Nat → Path} (hok : ∀ i, (P i).ok) (n : Nat) (hn : 1 ≤ n) : mrg ((List.range n).map fun i => mk (P i)) = grp P n := by
  rw [← foldl_grp hok n]
  unfold mrg
  obtain ⟨k, rfl⟩ : ∃ k, n = k + 1 := ⟨n - 1, by omega⟩
  rw [List.range_succ_eq_map]
  rfl

/-! ### the law's own inner loop -/
def lcols (c o : Int) : Int := if 0 < o ∧ (c = 0 ∨ o < c) then o else c
/-- what the loop's body makes of e's tree -/
def upd (T : Tree) (q : Path) : Tree :=
  { T with svg := imax T.svg q.svg, mth := imax T.mth q.mth, pre := imax T.pre q.pre, listing := imax T.listing q.listing, selects := imax T.selects q.selects, selTpl := imax T.selTpl q.selTpl, templates := imax T.templates q.templates,
           frameset := T.frameset || q.frameset, unsettled := T.unsettled || q.unsettled, lost := T.lost || q.lost }
/-- e's tree, allEq, cols, when j stands at k -/
def lst (P : Nat → Path) (i : Nat) : Nat → Tree × Bool × Int
  | 0 => (treeOf (P i), true, 0)
  | k + 1 => if i ≤ k ∧ psame (P k) (P i) = true then (upd (lst P i k).1 (P k), (lst P i k).2.1 && decide ((P k).point % 3 = (P i).point % 3), lcols (lst P i k).2.2 (P k).columns) else lst P i k
def fin (s : Tree × Bool × Int) : Tree := { s.1 with columns := s.2.2, lost := s.1.lost || !s.2.1, point := if s.2.1 = true then s.1.point else 0 }
theorem lst_start (P : Nat → Path) (i k : Nat) (h : k ≤ i) : lst P i k = (treeOf (P i), true, 0) := by
  induction k with
  | zero => rfl
  | succ k ih =>
    unfold lst
    rw [if_neg (by omega)]
    exact ih (by omega)
theorem lst_point (P : Nat → Path) (i k : Nat) : (lst P i k).1.point = (treeOf (P i)).point := by
  induction k with
  | zero => rfl
  | succ k ih =>
    unfold lst
    split
    · exact ih
    · exact ih
theorem imax_self (a : Int) : imax a a = a := by unfold imax; split <;> rfl
theorem joinT_eq (T U : Tree) : joinT T U = { svg := imax T.svg U.svg, mth := imax T.mth U.mth, point := if T.point = U.point then T.point else 0, lost := (if T.point = U.point then T.lost else true) || U.lost, pre := imax T.pre U.pre, listing := imax T.listing U.listing, frameset := T.frameset || U.frameset, selects := imax T.selects U.selects, selTpl := imax T.selTpl U.selTpl, templates := imax T.templates U.templates, unsettled := T.unsettled || U.unsettled, columns := jcols T.columns U.columns } := by
  have h7 : ∀ X : Tree, j7 X U = { X with lost := if X.point = U.point then X.lost else true, point := if X.point = U.point then X.point else 0 } := by
    intro X
    unfold j7
    by_cases h : X.point = U.point
    · simp only [if_pos h]
    · simp only [if_neg h]
  unfold joinT
  rw [h7]
  rfl
theorem cols_eq (c o : Int) (ho : 0 ≤ o) : jcols c o = lcols c o := by
  unfold jcols lcols
  by_cases h1 : c = 0
  · subst h1
    by_cases h2 : 0 < o
    · simp [h2]
    · have : o = 0 := by omega
      simp [this]
  · by_cases h2 : 0 < o <;> by_cases h3 : o < c <;> simp [h1, h2, h3]
theorem fin_step (s : Tree × Bool × Int) (q : Path) (hq : q.ok) (p0 : Int) (_hp0 : 0 ≤ p0) (hs : s.1.point = (p0 % 3).toNat) :
    joinT (fin s) (treeOf q) = fin (upd s.1 q, s.2.1 && decide (q.point % 3 = p0 % 3), lcols s.2.2 q.columns) := by
  obtain ⟨T, a, c⟩ := s
  obtain ⟨-, -, -, -, -, -, -, -, -, ⟨hc, -⟩, ⟨hpt, -⟩⟩ := hq
  rw [joinT_eq]
  simp only [fin, upd, treeOf, cols_eq _ _ hc] at hs ⊢
  by_cases h : q.point % 3 = p0 % 3
  · cases a
    · simp [h]
    · simp [h, hs]
  · have h' : ¬ (p0 % 3).toNat = (q.point % 3).toNat := by omega
    cases a
    · simp [h]
    · simp [h, hs, h']
theorem acc_tree {P : Nat → Path} (hok : ∀ i, (P i).ok) (i : Nat) : ∀ k, i < k → (acc P k i).tree = fin (lst P i k)
  | 0, h => absurd h (Nat.not_lt_zero _)
  | k + 1, h => by
    have hself : psame (P i) (P i) = true := by rw [psame_iff]; exact ⟨rfl, rfl⟩
    by_cases hk : i = k
    · subst hk
      rw [acc_same P (i + 1) i (Nat.le_refl _)]
      unfold lst
      rw [if_pos ⟨Nat.le_refl _, hself⟩, lst_start P i i (Nat.le_refl _)]
      have hc : 0 ≤ (P i).columns := by
        obtain ⟨-, -, -, -, -, -, -, -, -, ⟨hc, -⟩, -⟩ := hok i
        exact hc
      have hl : lcols 0 (P i).columns = (P i).columns := by
        unfold lcols
        by_cases h0 : 0 < (P i).columns
        · simp [h0]
        · have : (P i).columns = 0 := by omega
          simp [this]
      simp only [fin, upd, mk, treeOf, imax_self, hl]
      simp
    · have hik : i < k := by omega
      have ih := acc_tree hok i k hik
      have hp : 0 ≤ (P i).point := by
        obtain ⟨-, -, -, -, -, -, -, -, -, -, ⟨hp, -⟩⟩ := hok i
        exact hp
      unfold acc lst
      by_cases hps : psame (P k) (P i) = true
      · rw [if_pos ⟨hik, hps⟩, if_pos ⟨by omega, hps⟩]
        show joinT (acc P k i).tree (treeOf (P k)) = _
        rw [ih]
        exact fin_step _ (P k) (hok k) (P i).point hp (lst_point P i k)
      · rw [if_neg (fun h => hps h.2), if_neg (fun h => hps h.2)]
        exact ih
/-- what the law holds against got[n] -/
def want (P : Nat → Path) (n i : Nat) : Tok := { mk (P i) with tree := fin (lst P i n) }
theorem acc_want {P : Nat → Path} (hok : ∀ i, (P i).ok) (n i : Nat) (h : i < n) : acc P n i = want P n i := by
  have h1 := acc_st P n i
  have h2 := acc_tree hok i n h
  unfold want
  cases ha : acc P n i with
  | mk a b c => rw [ha] at h1 h2; simp only at h1 h2; rw [h1.1, h1.2, h2]
theorem firsts_le (P : Nat → Path) (i n : Nat) (h : i ≤ n) : ∃ r, firsts P n = firsts P i ++ r := by
  induction n with
  | zero => exact ⟨[], by simp [show i = 0 by omega]⟩
  | succ n ih =>
    by_cases hi : i = n + 1
    · exact ⟨[], by simp [hi]⟩
    · obtain ⟨r, hr⟩ := ih (by omega)
      rw [firsts_succ, hr]
      exact ⟨_, List.append_assoc _ _ _⟩
/-- got[n] at a first -/
theorem grp_at {P : Nat → Path} (hok : ∀ i, (P i).ok) (n i : Nat) (h : i < n) (hs : seen P i = false) : (grp P n)[(firsts P i).length]? = some (want P n i) := by
  obtain ⟨r, hr⟩ := firsts_le P (i + 1) n (by omega)
  unfold grp
  rw [hr, firsts_succ, if_neg (by simp [hs]), List.getElem?_map]
  simp [acc_want hok n i h]
theorem firsts_length_succ (P : Nat → Path) (i : Nat) : (firsts P (i + 1)).length = (firsts P i).length + (if seen P i = true then 0 else 1) := by
  rw [firsts_succ, List.length_append]
  split <;> rfl
end Go.Proofs.Ybulkafpc
